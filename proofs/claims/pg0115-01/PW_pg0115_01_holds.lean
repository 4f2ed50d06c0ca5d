import PyProof.Rows.All
import Wide.All
import OpenK.AllK
import Wide.FinOn
import PyProof.ToksMono
import PyProof.StrReplace2
import Flt.RightMore
import PySem.Challenge.RW_pg0115_01
set_option linter.all false
open PySem PySem.W PyProof.Rows
set_option Elab.async false
namespace Mine
set_option synthInstance.maxSize 1 in
set_option maxRecDepth 100000 in
set_option maxHeartbeats 8000000 in
open_top hd for PySem.Challenge.rw_pg0115_01.row
end Mine
local macro_rules | `(tactic| walk_at $s:str) => `(tactic| k_extra $s)
open PySem PySem.W PyProof.Rows
set_option Elab.async false
namespace Mine

section
variable {prog : Program} {w : World} {A₀ A : Around} {s : Shared} {K : Frag} {base h₀ : Heap} {outer : List Env} {L : Addr} {m mg mb : Str → Option Value} {env : Env} {p : Program} {loose : List Str} {mean : ExcName → Option Value}
  {R : Result → Shared → Prop} {name qual : Str} {params : Arguments} {body : List Stmt} {scope : Scope} {dV kV doc pm cdv ct oc : Value} {an od : Option Addr} {osl : Array (Option Value)} {f : Addr} {args : Args} {binds : List (Str × Value)}
/-- a call of a def, the whole heap taken as the base -/
theorem callV {P : Heap → Prop} (hP : P s.heap) (B : Below A₀ base outer h₀) (F : Fr h₀ L s.heap m) (X₀ : K.In h₀) (T : Top p loose mean mg mb h₀) (hA : A.frames = some (env :: outer)) (hf : env.frame = some L) (hke : env.scope.kind = .function)
    (ho : K.lookup f = some ⟨oc, od, .func (fnOf name qual params body scope dV kV doc pm an cdv ct), osl⟩) (hcd : codeIn K cdv qual = true) (hroom : A.depth < recursionLimit)
    (hbind : BindsTo s (fnOf name qual params body scope dV kV doc pm an cdv ct) args binds) (hloc : ∀ y ∈ binds, scope.names.lookup y.1 = some .local)
    (h : ∀ g L' h₁, P g → s.heap.StaysIn g → Fr g L' h₁ (fun y => binds.reverse.lookup y) → News g L' h₁ [] → Below A base (env :: outer) g → K.In g → Top p loose mean mg mb g →
      wpAny (model prog w) (A.deeper (envOf qual scope L' f cdv)) (execs body (envOf qual scope L' f cdv))
        (fun fl s' => R (.ok (.ret (match fl with | .ret v => v | _ => .none))) s')
        (fun e s' => wpAny (model prog w) (A.deeper (envOf qual scope L' f cdv)) (leaving (envOf qual scope L' f cdv) e) (fun _ s'' => R (.error e) s'') (fun e' s'' => R (.error e') s'') s')
        { s with heap := h₁, toks := s.toks + binds.length })
    (hco : scope.isCoroutine = false) (hgen : scope.isGenerator = false) (hk : scope.kind = .function)
    (hcell : ∀ x ∈ scope.names, x.2 ≠ .cell) : codeAny (model prog w) A (.call (.ref f) args) R s := by
  obtain ⟨_, BG, st, _⟩ := groundX (R := R) B F (News.nil) hA hf hke
  refine codeAny_call_def (fd := fnOf name qual params body scope dV kV doc pm an cdv ct) (body := body) (binds := binds) hroom ((X₀.keeps F.keep) _ _ ho) rfl (T.nolimit.keeps F.keep) (codeRec_of (X₀.keeps F.keep) hcd) rfl hbind hcell hloc (fun h₁ hns hk₁ => ?_) hco hgen hk
  exact h s.heap s.heap.objs.size h₁ hP (fun _ _ e => e) ⟨hns, hk₁, Nat.le_refl _⟩ News.nil BG (X₀.keeps F.keep) (T.keeps F.keep)
end

/-- a contract: a call of the def at f from any frame; nothing that stood is turned; what it makes is tl -/
noncomputable def Ctr (w : World) (f : Addr) (dep : Nat) (vs : List Value) (Pre : Heap → Prop) (Out : List (Addr × Obj) → Value → Prop) : Prop :=
  ∀ (mean : ExcName → Option Value) (mg mb : Str → Option Value) (dp un : Nat) (gd : Option (List Code)) (cn : Str) (cs : Scope) (a : Addr) (ccd : Value) (cl : List (Str × Addr)) (outer : List Env) (A₀ : Around) (base h₀ : Heap) (L : Addr) (m : Str → Option Value) (s : Shared)
    (Q E : Value → Shared → Prop),
    Below A₀ base outer h₀ → Fr h₀ L s.heap m → (Mine.hd.heap_1 w.params).In h₀ → Top Mine.hd.view_1 (looseW Mine.hd.view_1 []) mean mg mb h₀ → cs.kind = .function → Pre s.heap → dp + dep < recursionLimit → un + 8 * dep < cLine →
    (∀ r tl h' tk', (∀ b o, s.heap.get? b = some o → h'.get? b = some o) → (∀ p ∈ tl, h'.get? p.1 = some p.2 ∧ s.heap.get? p.1 = none) → Out tl r → Q r { s with heap := h', toks := tk' }) →
    wpAny (model PySem.Challenge.rw_pg0115_01.row.prog w) (ktrTop dp un gd cn cs L a ccd cl outer) (call (.ref f) vs) Q E s

noncomputable def AllNe (d : Nat) : List (Addr × Obj) → Prop
  | [] => True
  | p :: r => @Ne Nat p.1 d ∧ AllNe d r
theorem allNe_of {d : Addr} : ∀ {l : List (Addr × Obj)}, (∀ p ∈ l, p.1 ≠ d) → AllNe d l
  | [], _ => trivial
  | p :: _, h => ⟨h p (.head _), allNe_of fun q hq => h q (.tail _ hq)⟩

theorem AllNe.ne {d : Addr} : ∀ {l : List (Addr × Obj)}, AllNe d l → ∀ q ∈ l, q.1 ≠ d
  | [], _, _, hq => nomatch hq
  | p :: r, h, q, hq => by
    rcases List.mem_cons.mp hq with rfl | hq
    · exact h.1
    · exact AllNe.ne h.2 q hq

theorem Ctr.use {w : World} {f : Addr} {dep : Nat} {vs : List Value} {Pre : Heap → Prop} {Out : List (Addr × Obj) → Value → Prop} (C : Ctr w f dep vs Pre Out)
    {mean : ExcName → Option Value} {mg mb : Str → Option Value} {dp un : Nat} {gd : Option (List Code)} {cn : Str} {cs : Scope} {a : Addr} {ccd : Value} {cl : List (Str × Addr)} {outer : List Env} {A₀ : Around} {base h₀ : Heap} {L : Addr} {m : Str → Option Value} {news : List (Addr × Obj)} {s : Shared}
    {Q E : Value → Shared → Prop} (B : Below A₀ base outer h₀) (F : Fr h₀ L s.heap m) (X : (Mine.hd.heap_1 w.params).In h₀) (N : News h₀ L s.heap news) (T : Top Mine.hd.view_1 (looseW Mine.hd.view_1 []) mean mg mb h₀) (hk : cs.kind = .function)
    (hp : Pre s.heap) (hd : dp + dep < recursionLimit) (hu : un + 8 * dep < cLine)
    (ret : ∀ r tl h' tk', Fr h₀ L h' m → News h₀ L h' (tl ++ news) → (∀ p ∈ tl, AllNe p.1 news) → Out tl r → Q r { s with heap := h', toks := tk' }) :
    wpAny (model PySem.Challenge.rw_pg0115_01.row.prog w) (ktrTop dp un gd cn cs L a ccd cl outer) (call (.ref f) vs) Q E s := by
  refine C _ _ _ _ _ _ _ _ _ _ _ _ _ _ _ _ _ _ _ _ B F X T hk hp hd hu fun r tl h' tk' kp kt ho => ?_
  refine ret r tl h' tk' (F.grownK kp) (fun p hp => ?_) (fun p hp => allNe_of fun q hq e => ?_) ho
  · rcases List.mem_append.mp hp with hp | hp
    · refine ⟨(kt p hp).1, fun e => ?_, ?_⟩
      · obtain ⟨oL, _, _, hL, _⟩ := F.ns
        have := (kt p hp).2
        rw [e, hL] at this; cases this
      · cases q : h₀.get? p.1 with
        | none => rfl
        | some o => have := (kt p hp).2; rw [F.keep _ _ q] at this; cases this
    · exact ⟨kp _ _ (N p hp).1, (N p hp).2⟩
  · have := (kt p hp).2
    rw [← e, (N q hq).1] at this; cases this

/-- a text comes back -/
theorem Ctr.useS {w : World} {f : Addr} {dep : Nat} {vs : List Value} {Pre : Heap → Prop} {x : Str} (C : Ctr w f dep vs Pre (fun tl r => ∃ t, r = .str x t ∧ tl = []))
    {mean : ExcName → Option Value} {mg mb : Str → Option Value} {dp un : Nat} {gd : Option (List Code)} {cn : Str} {cs : Scope} {a : Addr} {ccd : Value} {cl : List (Str × Addr)} {outer : List Env} {A₀ : Around} {base h₀ : Heap} {L : Addr} {m : Str → Option Value} {news : List (Addr × Obj)} {s : Shared}
    {Q E : Value → Shared → Prop} (B : Below A₀ base outer h₀) (F : Fr h₀ L s.heap m) (X : (Mine.hd.heap_1 w.params).In h₀) (N : News h₀ L s.heap news) (T : Top Mine.hd.view_1 (looseW Mine.hd.view_1 []) mean mg mb h₀) (hk : cs.kind = .function)
    (hp : Pre s.heap) (hd : dp + dep < recursionLimit) (hu : un + 8 * dep < cLine)
    (ret : ∀ t h' tk', Fr h₀ L h' m → News h₀ L h' news → Q (.str x t) { s with heap := h', toks := tk' }) :
    wpAny (model PySem.Challenge.rw_pg0115_01.row.prog w) (ktrTop dp un gd cn cs L a ccd cl outer) (call (.ref f) vs) Q E s := by
  refine Ctr.use C B F X N T hk hp hd hu fun r tl h' tk' F' N' _ ho => ?_
  obtain ⟨t, rfl, rfl⟩ := ho
  exact ret t h' tk' F' N'

noncomputable abbrev tupObj (vs : List Value) (n : Nat) : Obj := { cls := .type "tuple", data := .seq vs.toArray n }

/-- what a way's end gives to the contract -/
theorem kept_of {s : Shared} {g h' : Heap} {L : Addr} {m : Str → Option Value} (hs : s.heap.StaysIn g) (F : Fr g L h' m) : ∀ b o, s.heap.get? b = some o → h'.get? b = some o := fun b o e => F.keep b o (hs b o e)
theorem made_of {s : Shared} {g h' : Heap} {L : Addr} {tl news : List (Addr × Obj)} (hs : s.heap.StaysIn g) (N : News g L h' news) (hm : ∀ p ∈ tl, p ∈ news) : ∀ p ∈ tl, h'.get? p.1 = some p.2 ∧ s.heap.get? p.1 = none := fun p hp => by
  refine ⟨(N p (hm p hp)).1, ?_⟩
  cases q : s.heap.get? p.1 with
  | none => rfl
  | some o => have := (N p (hm p hp)).2.2; rw [hs _ _ q] at this; cases this
theorem made1 {s : Shared} {g h' : Heap} {L : Addr} {q : Addr × Obj} {news : List (Addr × Obj)} (hs : s.heap.StaysIn g) (N : News g L h' (q :: news)) : ∀ p ∈ [q], h'.get? p.1 = some p.2 ∧ s.heap.get? p.1 = none :=
  made_of hs N fun p hp => by rw [List.mem_singleton.mp hp]; exact .head _
end Mine
open PySem PySem.W PyProof.Rows
set_option Elab.async false
namespace Mine
theorem w_clear_C8 : True := by
  w_top off
  k_with_none
  k_with "callWith" => (k_here; (with_reducible show wpAny _ _ (callWith _ (Value.builtin _) (_ :: _) (backTo _ (starEach (_ :: _) _)) []) _ _ _); (with_reducible refine' PyProof.Rows.callWith_method1 ?_ ?he ?hp); (case he => k_dflt rfl); (case hp => k_dflt rfl))
  k_with "callWith" => (k_here; (with_reducible show wpAny _ _ (callWith _ (Value.builtin _) [] (backTo _ (starEach (_ :: _) _)) []) _ _ _); (with_reducible refine' PyProof.Rows.callWith_builtin1 ?_ ?he ?hp); (case he => k_dflt rfl); (case hp => k_dflt rfl))
  trivial
noncomputable def restOf (n : Int) : Int := (n.fmod 65536).fdiv 4
noncomputable def clsS (n : Int) : Int := (restOf n).fmod 3 + 1
noncomputable def clsN (n : Int) : Int := ((restOf n).fdiv 3).fmod (4 ^ (clsS n).toNat)
noncomputable def strS (n : Int) : Int := (restOf n).fmod 2 + 1
noncomputable def strN' (n : Int) : Int := ((restOf n).fdiv 2).fmod (4 ^ (strS n).toNat)
noncomputable def clsD (n : Int) : List Dat := if n.fmod 4 = 0 then [.tuple [.int (clsN n), .int (clsS n)]] else []
noncomputable def strD (n : Int) : List Dat := if n.fmod 4 = 1 then [.tuple [.int (strN' n), .int (strS n)]] else []
noncomputable def spoD (n : Int) : List Dat := if n.fmod 4 = 0 then [] else if n.fmod 4 = 1 then [] else [.tuple [.int ((restOf n).fmod 64), .int (((restOf n).fdiv 64).fmod 16), .int (((restOf n).fdiv 1024).fmod 4 + 1), .bool (decide ((restOf n).fdiv 4096 < 3))]]
noncomputable def clsL (pre : List Int) : List Dat := pre.flatMap clsD
noncomputable def strL (pre : List Int) : List Dat := pre.flatMap strD
noncomputable def spoL (pre : List Int) : List Dat := pre.flatMap spoD
theorem clsD_len (n : Int) : (clsD n).length ≤ 1 := by unfold clsD; split <;> simp
theorem strD_len (n : Int) : (strD n).length ≤ 1 := by unfold strD; split <;> simp
theorem spoD_len (n : Int) : (spoD n).length ≤ 1 := by unfold spoD; (repeat' split) <;> simp
theorem flat_len {f : Int → List Dat} (h : ∀ n, (f n).length ≤ 1) : ∀ pre : List Int, (pre.flatMap f).length ≤ pre.length
  | [] => Nat.le_refl _
  | n :: r => by
    have h1 := h n
    have h2 := flat_len h r
    simp only [List.flatMap_cons, List.length_append, List.length_cons]
    omega
noncomputable def Things (pre : List Int) (c st sp : List Dat) : Prop := c = clsL pre ∧ st = strL pre ∧ sp = spoL pre
noncomputable def ThingsP (pre : List Int) (c st sp : List Dat) : Prop := c.length ≤ pre.length ∧ st.length ≤ pre.length ∧ sp.length ≤ pre.length ∧ Things pre c st sp
theorem thingsP {pre : List Int} {c st sp : List Dat} (h : Things pre c st sp) : ThingsP pre c st sp := by
  obtain ⟨h1, h2, h3⟩ := h
  subst h1; subst h2; subst h3
  exact ⟨flat_len clsD_len pre, flat_len strD_len pre, flat_len spoD_len pre, rfl, rfl, rfl⟩
theorem things1 {pre : List Int} {n : Int} {c st sp : List Dat} (h : n.fmod 4 = 0) (hT : Things pre c st sp) : (c ++ [Dat.tuple [Dat.int ((((n.fmod 65536).fdiv 4).fdiv 3).fmod (4 ^ (((n.fmod 65536).fdiv 4).fmod 3 + 1).toNat)), Dat.int (((n.fmod 65536).fdiv 4).fmod 3 + 1)]]).length ≤ (pre ++ [n]).length ∧ st.length ≤ (pre ++ [n]).length ∧ sp.length ≤ (pre ++ [n]).length ∧ Things (pre ++ [n]) (c ++ [Dat.tuple [Dat.int ((((n.fmod 65536).fdiv 4).fdiv 3).fmod (4 ^ (((n.fmod 65536).fdiv 4).fmod 3 + 1).toNat)), Dat.int (((n.fmod 65536).fdiv 4).fmod 3 + 1)]]) st sp := by
  obtain ⟨h1, h2, h3⟩ := hT
  subst h1; subst h2; subst h3
  refine thingsP ⟨?_, ?_, ?_⟩ <;> simp [clsL, strL, spoL, clsD, strD, spoD, clsN, clsS, strN', strS, restOf, h]
theorem things2 {pre : List Int} {n : Int} {c st sp : List Dat} (h : n.fmod 4 = 1) (hT : Things pre c st sp) : c.length ≤ (pre ++ [n]).length ∧ (st ++ [Dat.tuple [Dat.int ((((n.fmod 65536).fdiv 4).fdiv 2).fmod (4 ^ (((n.fmod 65536).fdiv 4).fmod 2 + 1).toNat)), Dat.int (((n.fmod 65536).fdiv 4).fmod 2 + 1)]]).length ≤ (pre ++ [n]).length ∧ sp.length ≤ (pre ++ [n]).length ∧ Things (pre ++ [n]) c (st ++ [Dat.tuple [Dat.int ((((n.fmod 65536).fdiv 4).fdiv 2).fmod (4 ^ (((n.fmod 65536).fdiv 4).fmod 2 + 1).toNat)), Dat.int (((n.fmod 65536).fdiv 4).fmod 2 + 1)]]) sp := by
  obtain ⟨h1, h2, h3⟩ := hT
  subst h1; subst h2; subst h3
  refine thingsP ⟨?_, ?_, ?_⟩ <;> simp [clsL, strL, spoL, clsD, strD, spoD, clsN, clsS, strN', strS, restOf, h]
theorem things3 {pre : List Int} {n : Int} {c st sp : List Dat} (h0 : n.fmod 4 ≠ 0) (h : n.fmod 4 ≠ 1) (hT : Things pre c st sp) : c.length ≤ (pre ++ [n]).length ∧ st.length ≤ (pre ++ [n]).length ∧ (sp ++ [Dat.tuple [Dat.int (((n.fmod 65536).fdiv 4).fmod 64), Dat.int ((((n.fmod 65536).fdiv 4).fdiv 64).fmod 16), Dat.int ((((n.fmod 65536).fdiv 4).fdiv 1024).fmod 4 + 1), Dat.bool (decide (((n.fmod 65536).fdiv 4).fdiv 4096 < 3))]]).length ≤ (pre ++ [n]).length ∧ Things (pre ++ [n]) c st (sp ++ [Dat.tuple [Dat.int (((n.fmod 65536).fdiv 4).fmod 64), Dat.int ((((n.fmod 65536).fdiv 4).fdiv 64).fmod 16), Dat.int ((((n.fmod 65536).fdiv 4).fdiv 1024).fmod 4 + 1), Dat.bool (decide (((n.fmod 65536).fdiv 4).fdiv 4096 < 3))]]) := by
  obtain ⟨h1, h2, h3⟩ := hT
  subst h1; subst h2; subst h3
  refine thingsP ⟨?_, ?_, ?_⟩ <;> simp [clsL, strL, spoL, clsD, strD, spoD, restOf, h0, h] <;> rfl
theorem things0 : ([] : List Dat).length ≤ ([] : List Int).length ∧ ([] : List Dat).length ≤ ([] : List Int).length ∧ ([] : List Dat).length ≤ ([] : List Int).length ∧ Things [] [] [] [] := thingsP ⟨rfl, rfl, rfl⟩
theorem w_words_C8_1 : True := by
  k_with "exec For Name BinOp cons nil" => (kst_has; k_here; (rename Fr _ _ _ _ => lF'); (with_unfolding_all refine' For_invVF lF' ?k1 ?k2 ?_; (case k1 => exact rfl); (case k2 => exact rfl); k_whole))
  trivial
noncomputable def all15 (ns : List Int) : List Int := List.take 6 ns ++ [12, 368, 37, 5914, 182, 1050, 13442, 11386, 51550]
noncomputable def OutThings (ns : List Int) (tl : List (Addr × Obj)) (r : Value) : Prop :=
  ∃ D l1 l2 l3 us1 us2 us3 e1 e2 e3 tT, r = .ref D ∧ tl = (D, tupObj [.ref l1, .ref l2, .ref l3] 0) :: (l3, W.listOf us3.toArray e3) :: (l2, W.listOf us2.toArray e2) :: (l1, W.listOf us1.toArray e1) :: tT ∧
    DatAll tT us1 (clsL (all15 ns)) ∧ DatAll tT us2 (strL (all15 ns)) ∧ DatAll tT us3 (spoL (all15 ns))
theorem outThings {ns : List Int} {D l1 l2 l3 : Addr} {us1 us2 us3 : List Value} {e1 e2 e3 : Nat} {tT : List (Addr × Obj)} {c st sp : List Dat} (hT : Things (all15 ns) c st sp) (h1 : DatAll tT us1 c) (h2 : DatAll tT us2 st) (h3 : DatAll tT us3 sp) :
    OutThings ns ((D, tupObj [.ref l1, .ref l2, .ref l3] 0) :: (l3, W.listOf us3.toArray e3) :: (l2, W.listOf us2.toArray e2) :: (l1, W.listOf us1.toArray e1) :: tT) (.ref D) := by
  obtain ⟨q1, q2, q3⟩ := hT
  subst q1; subst q2; subst q3
  exact ⟨_, _, _, _, _, _, _, _, _, _, _, rfl, rfl, h1, h2, h3⟩
set_option maxRecDepth 100000 in
set_option maxHeartbeats 8000000 in
theorem c_things (w : World) {l : Addr} {vs : List Value} {ns : List Int} (hI : IntsAre vs ns) (hlen : ns.length ≤ 63) : Ctr w 139 1 [.ref l] (fun h => h.IsList l vs.toArray) (OutThings ns) := by
  unfold Ctr
  k_fill
  intro mean mg mb dp un gd cn cs a ccd cl outer A₀ base h₀ L m s Q E B F X T hk hpre hd hu hret
  refine wpAny_call ?_
  k_dflt (refine' callV (P := fun h => h.IsList l vs.toArray) hpre ?k1 ?k2 ?k3 ?k5 ?kA ?kF ?kK ?k6 ?k7 ?k8 ?k9 ?kB ?_ ?c2 ?c3 ?c4 ?c5; (case kA => exact rfl); (case kF => exact rfl); (case kK => assumption); (case k1 => k_asm); (case k2 => k_asm); (case k3 => k_asm); (case k5 => k_asm); (case k6 => k_is); (case k7 => k_is); (case k8 => ktr_room); (case k9 => exact BindsTo.of_eq rfl); (case c5 => decide); (case kB => exact locs rfl); (case c2 => exact rfl); (case c3 => exact rfl); (case c4 => exact rfl); k_whole)
  intro g' L' h' hpre' hst' F' N' B' X' T'
  clear B F X T hpre
  (try dsimp only)
  (try k_fold)
  (k_with "state" => (with_reducible first | exact things0 | exact things1 (by assumption) (by assumption) | exact things2 (by assumption) (by assumption) | exact things3 (by assumption) (by assumption) (by assumption)))
  (k_with "pyIter ref" => k_dat (fun pre c st sp => c.length ≤ pre.length ∧ st.length ≤ pre.length ∧ sp.length ≤ pre.length ∧ Things pre c st sp) "classes*" "stretches*" "spots*")
  k_steps
  dsimp only
  exact hret _ _ _ _ (kept_of hst' (by assumption)) (made_of hst' (by assumption) (fun _ h => h)) (outThings (by assumption) (by assumption) (by assumption) (by assumption))
/-- the call of _law_things in a frame: what it made lies behind, its lists ahead -/
theorem things_use {w : World} {l : Addr} {vs : List Value} {ns : List Int} (hI : IntsAre vs ns) (hlen : ns.length ≤ 63)
    {mean : ExcName → Option Value} {mg mb : Str → Option Value} {dp un : Nat} {gd : Option (List Code)} {cn : Str} {cs : Scope} {a : Addr} {ccd : Value} {cl : List (Str × Addr)} {outer : List Env} {A₀ : Around} {base h₀ : Heap} {L : Addr} {m : Str → Option Value} {news : List (Addr × Obj)} {s : Shared}
    {Q E : Value → Shared → Prop} (B : Below A₀ base outer h₀) (F : Fr h₀ L s.heap m) (X : (Mine.hd.heap_1 w.params).In h₀) (N : News h₀ L s.heap news) (T : Top Mine.hd.view_1 (looseW Mine.hd.view_1 []) mean mg mb h₀) (hk : cs.kind = .function)
    (hp : s.heap.IsList l vs.toArray) (hd : dp + 1 < recursionLimit) (hu : un + 8 * 1 < cLine)
    (ret : ∀ D l1 l2 l3 us1 us2 us3 e1 e2 e3 tT h' tk', Fr h₀ L h' m → News h₀ L h' ((D, tupObj [.ref l1, .ref l2, .ref l3] 0) :: (l3, W.listOf us3.toArray e3) :: (l2, W.listOf us2.toArray e2) :: (l1, W.listOf us1.toArray e1) :: (news ++ tT)) →
      (AllNe D news ∧ AllNe l3 news ∧ AllNe l2 news ∧ AllNe l1 news) → OwnOff tT (news.map (·.1)) →
      DatAll tT us1 (clsL (all15 ns)) → DatAll tT us2 (strL (all15 ns)) → DatAll tT us3 (spoL (all15 ns)) → Q (.ref D) { s with heap := h', toks := tk' }) :
    wpAny (model PySem.Challenge.rw_pg0115_01.row.prog w) (ktrTop dp un gd cn cs L a ccd cl outer) (call (.ref 139) [.ref l]) Q E s := by
  refine Ctr.use (c_things w hI hlen) B F X N T hk hp hd hu fun r tl h' tk' F' N' hne ho => ?_
  obtain ⟨D, l1, l2, l3, us1, us2, us3, e1, e2, e3, tT, rfl, rfl, d1, d2, d3⟩ := ho
  refine ret D l1 l2 l3 us1 us2 us3 e1 e2 e3 tT h' tk' F' (fun p hp => N' p ?_) ⟨hne _ (.head _), hne _ (.tail _ (.head _)), hne _ (.tail _ (.tail _ (.head _))), hne _ (.tail _ (.tail _ (.tail _ (.head _))))⟩ (fun p hp b hb e => ?_) d1 d2 d3
  · simp only [List.mem_cons, List.mem_append] at hp ⊢
    rcases hp with h | h | h | h | h | h <;> simp [h]
  · have := hne p (.tail _ (.tail _ (.tail _ (.tail _ hp))))
    obtain ⟨q, hq, rfl⟩ := List.mem_map.mp hb
    exact this.ne q hq e.symm
end Mine
open PySem PySem.W PyProof.Rows PySem.Flt
set_option Elab.async false
namespace Mine
/-! floats: max, min of three -/
noncomputable def mx (x y : UInt64) : UInt64 := if (Float64.cmp x y == some .lt) = true then y else x
noncomputable def mn (x y : UInt64) : UInt64 := if (Float64.cmp y x == some .lt) = true then y else x

section
variable {prog : Program} {w : World} {A : Around} {E : Value → Shared → Prop} {s : Shared} {Q : Value → Shared → Prop}

theorem args_min3 (a b c : Value) : argsOk "min" ⟨[a, b, c], []⟩ := by unfold argsOk; kernel_rfl

theorem call_min3 {a b c : Value}
    (h : wpAny (model prog w) A.in1 (pyIter (.ref s.heap.objs.size)) (fun it s₂ => ∃ I fp wr n P St bt, it = .ref I ∧ Walks prog w A.in1 I fp wr n P St ∧ St 0 s₂.heap ∧ (∀ b ∈ fp, b < s₂.heap.objs.size) ∧ 0 < n ∧ CmpOf prog w A.in1 .Lt P bt ∧
      ∀ v h' tk, P (argBest bt (n - 1)) v → (∀ b o, b ∉ wr → s₂.heap.get? b = some o → h'.get? b = some o) → Q v { s₂ with heap := h', toks := tk }) E
      { s with heap := s.heap.push { cls := .type "tuple", data := .seq #[a, b, c] } }) :
    wpAny (model prog w) A (call (.builtin "min") [a, b, c]) Q E s := by
  have hname : (toString "min" ++ toString ".loop" : String) = "min.loop" := by decide
  refine call_function_tree F.kind_min F.plain_min F.entry_min (args_min3 _ _ _) ?_
  show wpAny _ A.in1 (Builtin.Builtins.bindParams "min" ["key", "default"] 0 ⟨[], []⟩ >>= _) _ _ s
  refine wpAny_bind (wpAny_of_eq (show Builtin.Builtins.bindParams "min" ["key", "default"] 0 ⟨[], []⟩ = pure [none, none] from rfl) ?_)
  show wpAny _ A.in1 (newTuple [a, b, c] >>= _) _ _ s
  refine wpAny_bind (wpAny_newObj_type ?_)
  refine wpAny_bind (wpAny_mono h (fun it s₂ h₂ => ?_) fun _ _ e => e)
  obtain ⟨I, fp, wr, n, P, St, bt, rfl, W, hst, hfp, hn, hcmp, hQ⟩ := h₂
  refine wpAny_bind (wpAny_newObj_type ?_)
  have hSf : s₂.heap.objs.size ∉ fp := fun hm => Nat.lt_irrefl _ (hfp _ hm)
  rw [hname]
  refine wpAny_pure ⟨plainId_quiet F.plain_min_loop _, codeAny_min_loop_first W bt hcmp s₂.heap.objs.size hSf hn (W.frame _ _ _ hst fun b _ o e => Heap.get?_push_of_some _ e) (Heap.get?_push_size _ rfl) fun v h' tk hP hk => ?_⟩
  exact hQ v h' tk hP fun b o hbw e => hk b o hbw (Nat.ne_of_lt (Heap.lt_size e)) (Heap.get?_push_of_some _ e)

theorem max3_f {x y z : UInt64} {t u v : Nat} {h₀ : Heap} {L : Addr} {m : Str → Option Value} {news : List (Addr × Obj)}
    (hh : A.handled = none) (F : Fr h₀ L s.heap m) (N : News h₀ L s.heap news)
    (h : ∀ h' tk (tt : Nat), (tt = t ∨ tt = u ∨ tt = v) → Fr h₀ L h' m → News h₀ L h' news → Q (.float (mx (mx x y) z) tt) { s with heap := h', toks := tk }) :
    wpAny (model prog w) A (call (.builtin "max") [.float x t, .float y u, .float z v]) Q E s := by
  have hT : (s.heap.push { cls := .type "tuple", data := .seq #[.float x t, .float y u, .float z v] }).IsTuple s.heap.objs.size #[.float x t, .float y u, .float z v] := ⟨_, Heap.get?_push_size _ rfl, rfl, 0, rfl⟩
  refine call_max_three (wpAny_pyIter_tuple hT ?_)
  have hsz : (s.heap.push { cls := .type "tuple", data := .seq #[.float x t, .float y u, .float z v] }).objs.size = s.heap.objs.size + 1 := Heap.size_push ..
  refine ⟨_, [_, s.heap.objs.size], [_], _, _, _, _, rfl, Walks.tuple (A := A.in1) hh _ s.heap.objs.size (by rw [hsz]; exact Nat.ne_of_lt (Nat.lt_succ_self _)) #[.float x t, .float y u, .float z v],
    ⟨⟨_, Heap.get?_push_size _ rfl, rfl, rfl⟩, hT.push _⟩, fun c hc => ?_, by simp, cmpOf_gt #[.float x t, .float y u, .float z v] (by intro q hq; simp at hq; rcases hq with rfl | rfl | rfl <;> exact .float _ _), fun q h' tk hP hk => ?_⟩
  · show c < ((s.heap.push _).push _).objs.size
    rw [Heap.size_push, hsz]
    rcases List.mem_cons.mp hc with rfl | hc
    · rw [hsz]; exact Nat.lt_succ_self _
    · rw [List.mem_singleton.mp hc]; exact Nat.lt_succ_of_lt (Nat.lt_succ_self _)
  · have hold : ∀ c o, s.heap.get? c = some o → h'.get? c = some o := fun c o e => by
      refine hk c o (fun hm => ?_) (Heap.get?_push_of_some _ (Heap.get?_push_of_some _ e))
      have := Heap.lt_size e
      rw [List.mem_singleton.mp hm, hsz] at this
      exact Nat.lt_irrefl _ (Nat.lt_of_succ_lt this)
    have hv : ∃ tt, (tt = t ∨ tt = u ∨ tt = v) ∧ q = .float (mx (mx x y) z) tt := by
      simp [argBest] at hP
      by_cases h1 : ltV (.float x t) (.float y u) = true
      · have e1 : mx x y = y := if_pos h1
        simp [h1] at hP
        by_cases h2 : ltV (.float y u) (.float z v) = true
        · have e2 : mx y z = z := if_pos h2
          simp [h2] at hP
          exact ⟨v, by simp, by rw [e1, e2, ← hP]⟩
        · have e2 : mx y z = y := if_neg h2
          simp [h2] at hP
          exact ⟨u, by simp, by rw [e1, e2, ← hP]⟩
      · have e1 : mx x y = x := if_neg h1
        simp [h1] at hP
        by_cases h2 : ltV (.float x t) (.float z v) = true
        · have e2 : mx x z = z := if_pos h2
          simp [h2] at hP
          exact ⟨v, by simp, by rw [e1, e2, ← hP]⟩
        · have e2 : mx x z = x := if_neg h2
          simp [h2] at hP
          exact ⟨t, by simp, by rw [e1, e2, ← hP]⟩
    obtain ⟨tt, ht, rfl⟩ := hv
    exact h h' tk tt ht (F.grownK hold) (N.grown hold)

theorem min3_f {x y z : UInt64} {t u v : Nat} {h₀ : Heap} {L : Addr} {m : Str → Option Value} {news : List (Addr × Obj)}
    (hh : A.handled = none) (F : Fr h₀ L s.heap m) (N : News h₀ L s.heap news)
    (h : ∀ h' tk (tt : Nat), (tt = t ∨ tt = u ∨ tt = v) → Fr h₀ L h' m → News h₀ L h' news → Q (.float (mn (mn x y) z) tt) { s with heap := h', toks := tk }) :
    wpAny (model prog w) A (call (.builtin "min") [.float x t, .float y u, .float z v]) Q E s := by
  have hT : (s.heap.push { cls := .type "tuple", data := .seq #[.float x t, .float y u, .float z v] }).IsTuple s.heap.objs.size #[.float x t, .float y u, .float z v] := ⟨_, Heap.get?_push_size _ rfl, rfl, 0, rfl⟩
  refine call_min3 (wpAny_pyIter_tuple hT ?_)
  have hsz : (s.heap.push { cls := .type "tuple", data := .seq #[.float x t, .float y u, .float z v] }).objs.size = s.heap.objs.size + 1 := Heap.size_push ..
  refine ⟨_, [_, s.heap.objs.size], [_], _, _, _, _, rfl, Walks.tuple (A := A.in1) hh _ s.heap.objs.size (by rw [hsz]; exact Nat.ne_of_lt (Nat.lt_succ_self _)) #[.float x t, .float y u, .float z v],
    ⟨⟨_, Heap.get?_push_size _ rfl, rfl, rfl⟩, hT.push _⟩, fun c hc => ?_, by simp, cmpOf_lt #[.float x t, .float y u, .float z v] (by intro q hq; simp at hq; rcases hq with rfl | rfl | rfl <;> exact .float _ _), fun q h' tk hP hk => ?_⟩
  · show c < ((s.heap.push _).push _).objs.size
    rw [Heap.size_push, hsz]
    rcases List.mem_cons.mp hc with rfl | hc
    · rw [hsz]; exact Nat.lt_succ_self _
    · rw [List.mem_singleton.mp hc]; exact Nat.lt_succ_of_lt (Nat.lt_succ_self _)
  · have hold : ∀ c o, s.heap.get? c = some o → h'.get? c = some o := fun c o e => by
      refine hk c o (fun hm => ?_) (Heap.get?_push_of_some _ (Heap.get?_push_of_some _ e))
      have := Heap.lt_size e
      rw [List.mem_singleton.mp hm, hsz] at this
      exact Nat.lt_irrefl _ (Nat.lt_of_succ_lt this)
    have hv : ∃ tt, (tt = t ∨ tt = u ∨ tt = v) ∧ q = .float (mn (mn x y) z) tt := by
      simp [argBest] at hP
      by_cases h1 : ltV (.float y u) (.float x t) = true
      · have e1 : mn x y = y := if_pos h1
        simp [h1] at hP
        by_cases h2 : ltV (.float z v) (.float y u) = true
        · have e2 : mn y z = z := if_pos h2
          simp [h2] at hP
          exact ⟨v, by simp, by rw [e1, e2, ← hP]⟩
        · have e2 : mn y z = y := if_neg h2
          simp [h2] at hP
          exact ⟨u, by simp, by rw [e1, e2, ← hP]⟩
      · have e1 : mn x y = x := if_neg h1
        simp [h1] at hP
        by_cases h2 : ltV (.float z v) (.float x t) = true
        · have e2 : mn x z = z := if_pos h2
          simp [h2] at hP
          exact ⟨v, by simp, by rw [e1, e2, ← hP]⟩
        · have e2 : mn x z = x := if_neg h2
          simp [h2] at hP
          exact ⟨t, by simp, by rw [e1, e2, ← hP]⟩
    obtain ⟨tt, ht, rfl⟩ := hv
    exact h h' tk tt ht (F.grownK hold) (N.grown hold)
end
end Mine
open PySem PySem.W PyProof.Rows
set_option Elab.async false
namespace Mine
/-! tokens: behind a statement they are above nought -/
noncomputable def TokNext (P : Nat → Prop) : Prop := ∀ tk, 1 ≤ tk → P tk
section
variable {M : Model} {A : Around} {E : Value → Shared → Prop} {s : Shared} {env : Env}
theorem execs_tok {st : Stmt} {rest : List Stmt} {Q : Flow → Shared → Prop} (hn : 1 ≤ s.toks)
    (h : wpAny M A (exec st env) (fun f s' => match f with | .next => TokNext (fun tk => wpAny M A (execs rest env) Q E { s' with toks := tk }) | f => Q f s') E s) :
    wpAny M A (execs (st :: rest) env) Q E s := by
  refine wpAny_execs_cons (wpAny_with_toks (n := 1) hn (wpAny_mono h (fun f s' x => ?_) fun _ _ x _ => x))
  cases f with
  | next => exact fun hk => x s'.toks hk
  | brk => exact fun _ => x
  | cont => exact fun _ => x
  | ret v => exact fun _ => x
end

/-! floats within tuples: equal ones -/
theorem noneBooked {w : World} {h : Heap} {p : Program} {loose : List Str} {mean : ExcName → Option Value} {mg mb : Str → Option Value} (X : (Mine.hd.heap_1 w.params).In h) (T : Top p loose mean mg mb h) : NoneBooked h := by
  obtain ⟨mc, hm, _⟩ := T.nodigits
  refine ⟨mc, hm, ?_⟩
  obtain ⟨o, es, ep, ho, hd, hk, hf⟩ := hm
  have hX := X cStatics _ rfl
  rw [hX] at ho
  obtain rfl := Option.some.inj ho
  cases hd
  exact (hf _).symm.trans rfl
section
variable {prog : Program} {w : World} {A : Around} {E : Value → Shared → Prop} {s : Shared}
theorem cmp_notNaN {x : UInt64} (h : Float64.cmp x x = some .eq) : Float64.isNaN x = false := by
  unfold Float64.cmp at h
  unfold Float64.isNaN
  cases q : Float64.decode x with
  | nan => rw [q] at h; cases h
  | inf a => rfl
  | fin a m e => rfl
theorem eqBool_float {x : UInt64} {t u : Tok} {Q : Bool → Shared → Prop} (ht : t ≠ 0) (hu : u ≠ 0) (hx : Float64.cmp x x = some .eq) (hb : NoneBooked s.heap) (h : Q true s) :
    wpAny (model prog w) A (eqBool (.float x t) (.float x u)) Q E s := by
  have same : ∀ {R : Bool → Shared → Prop}, (∀ b, R b s) → wpAny (model prog w) A (isSame (.float x t) (.float x u)) R E s := by
    intro R hR
    show wpAny _ _ (isSame.created (x == x && !Float64.isNaN x) t u) R E s
    unfold isSame.created
    rw [cmp_notNaN hx, show (x == x && !false) = true from by simp]
    simp only [show (t == 0 || u == 0) = false from by simp [ht, hu], Bool.false_eq_true, if_false, Bool.not_true]
    by_cases htu : (t == u) = true
    · simp only [htu, if_true]
      exact wpAny_pure (hR _)
    · simp only [htu, if_false]
      refine wpAny_bind (wpAny_sharingNotTold_none hb ?_)
      simp only [Bool.false_eq_true, if_false]
      refine wpAny_bind (wpAny_sharingNotTold_none hb ?_)
      simp only [Bool.false_eq_true, if_false]
      refine wpAny_bind (wpAny_rule (wpAny_pure (M := model prog w) (E := E) ?_))
      exact hR _
  unfold eqBool
  show wpAny _ _ (if (Value.float x t == Value.float x u) = true then _ else _) Q E s
  by_cases hab : (Value.float x t == Value.float x u) = true
  · rw [if_pos hab]
    exact wpAny_bind (wpAny_rule (wpAny_pure h))
  · rw [if_neg hab]
    refine wpAny_bind (same fun b => ?_)
    cases b
    · exact wpAny_bind (AutoFloatOps.eq_0 (by rw [hx]; exact wpAny_truthy_bool h))
    · exact wpAny_pure h
theorem eqAt_float {x : UInt64} {t u : Tok} (ht : t ≠ 0) (hu : u ≠ 0) (hx : Float64.cmp x x = some .eq) (hb : NoneBooked s.heap) : SeqAt.EqAt A s (.float x t) (.float x u) true :=
  fun _ _ _ _ h => eqBool_float ht hu hx hb h
/-- two tuples of equal floats are not unlike -/
theorem ne_floats3 {a b : Addr} {x y z : UInt64} {t1 t2 t3 u1 u2 u3 : Nat} {n1 n2 : Nat} {Q : Value → Shared → Prop} (ha : s.heap.get? a = some (tupObj [.float x t1, .float y t2, .float z t3] n1)) (hb : s.heap.get? b = some (tupObj [.float x u1, .float y u2, .float z u3] n2))
    (h1 : t1 ≠ 0) (h2 : t2 ≠ 0) (h3 : t3 ≠ 0) (k1 : u1 ≠ 0) (k2 : u2 ≠ 0) (k3 : u3 ≠ 0) (hx : Float64.cmp x x = some .eq) (hy : Float64.cmp y y = some .eq) (hz : Float64.cmp z z = some .eq) (hN : NoneBooked s.heap) (hu : A.units < cLine) (h : Q (.bool false) s) :
    wpAny (model prog w) A (compareOp .NotEq (.ref a) (.ref b)) Q E s := by
  refine SeqAt.RcNeAt.tuples (A := A) (s := s) (e := fun _ => true) ⟨_, ha, rfl, n1, rfl⟩ ⟨_, hb, rfl, n2, rfl⟩ hu (fun j j1 j2 => ?_) prog w E Q h
  have hj : j < 3 := j1
  match j, hj with
  | 0, _ => exact eqAt_float h1 k1 hx hN
  | 1, _ => exact eqAt_float h2 k2 hy hN
  | 2, _ => exact eqAt_float h3 k3 hz hN
theorem ne_floats2 {a b : Addr} {x y : UInt64} {t1 t2 u1 u2 : Nat} {n1 n2 : Nat} {Q : Value → Shared → Prop} (ha : s.heap.get? a = some (tupObj [.float x t1, .float y t2] n1)) (hb : s.heap.get? b = some (tupObj [.float x u1, .float y u2] n2))
    (h1 : t1 ≠ 0) (h2 : t2 ≠ 0) (k1 : u1 ≠ 0) (k2 : u2 ≠ 0) (hx : Float64.cmp x x = some .eq) (hy : Float64.cmp y y = some .eq) (hN : NoneBooked s.heap) (hu : A.units < cLine) (h : Q (.bool false) s) :
    wpAny (model prog w) A (compareOp .NotEq (.ref a) (.ref b)) Q E s := by
  refine SeqAt.RcNeAt.tuples (A := A) (s := s) (e := fun _ => true) ⟨_, ha, rfl, n1, rfl⟩ ⟨_, hb, rfl, n2, rfl⟩ hu (fun j j1 j2 => ?_) prog w E Q h
  have hj : j < 2 := j1
  match j, hj with
  | 0, _ => exact eqAt_float h1 k1 hx hN
  | 1, _ => exact eqAt_float h2 k2 hy hN
end

/-- a contract that minds the tokens -/
noncomputable def CtrT (w : World) (f : Addr) (dep : Nat) (vs : List Value) (Pre : Heap → Prop) (Out : List (Addr × Obj) → Value → Prop) : Prop :=
  ∀ (mean : ExcName → Option Value) (mg mb : Str → Option Value) (dp un : Nat) (gd : Option (List Code)) (cn : Str) (cs : Scope) (a : Addr) (ccd : Value) (cl : List (Str × Addr)) (outer : List Env) (A₀ : Around) (base h₀ : Heap) (L : Addr) (m : Str → Option Value) (s : Shared)
    (Q E : Value → Shared → Prop),
    Below A₀ base outer h₀ → Fr h₀ L s.heap m → (Mine.hd.heap_1 w.params).In h₀ → Top Mine.hd.view_1 (looseW Mine.hd.view_1 []) mean mg mb h₀ → cs.kind = .function → Pre s.heap → dp + dep < recursionLimit → un + 8 * dep < cLine → 1 ≤ s.toks →
    (∀ r tl h' tk', (∀ b o, s.heap.get? b = some o → h'.get? b = some o) → (∀ p ∈ tl, h'.get? p.1 = some p.2 ∧ s.heap.get? p.1 = none) → Out tl r → Q r { s with heap := h', toks := tk' }) →
    wpAny (model PySem.Challenge.rw_pg0115_01.row.prog w) (ktrTop dp un gd cn cs L a ccd cl outer) (call (.ref f) vs) Q E s
theorem CtrT.use {w : World} {f : Addr} {dep : Nat} {vs : List Value} {Pre : Heap → Prop} {Out : List (Addr × Obj) → Value → Prop} (C : CtrT w f dep vs Pre Out)
    {mean : ExcName → Option Value} {mg mb : Str → Option Value} {dp un : Nat} {gd : Option (List Code)} {cn : Str} {cs : Scope} {a : Addr} {ccd : Value} {cl : List (Str × Addr)} {outer : List Env} {A₀ : Around} {base h₀ : Heap} {L : Addr} {m : Str → Option Value} {news : List (Addr × Obj)} {s : Shared}
    {Q E : Value → Shared → Prop} (B : Below A₀ base outer h₀) (F : Fr h₀ L s.heap m) (X : (Mine.hd.heap_1 w.params).In h₀) (N : News h₀ L s.heap news) (T : Top Mine.hd.view_1 (looseW Mine.hd.view_1 []) mean mg mb h₀) (hk : cs.kind = .function)
    (hp : Pre s.heap) (hd : dp + dep < recursionLimit) (hu : un + 8 * dep < cLine) (htk : 1 ≤ s.toks)
    (ret : ∀ r tl h' tk', 1 ≤ tk' → Fr h₀ L h' m → News h₀ L h' (tl ++ news) → (∀ p ∈ tl, AllNe p.1 news) → Out tl r → Q r { s with heap := h', toks := tk' }) :
    wpAny (model PySem.Challenge.rw_pg0115_01.row.prog w) (ktrTop dp un gd cn cs L a ccd cl outer) (call (.ref f) vs) Q E s := by
  refine wpAny_with_toks htk ?_
  refine C _ _ _ _ _ _ _ _ _ _ _ _ _ _ _ _ _ _ _ _ B F X T hk hp hd hu htk fun r tl h' tk' kp kt ho hpos => ?_
  refine ret r tl h' tk' hpos (F.grownK kp) (fun p hp => ?_) (fun p hp => allNe_of fun q hq e => ?_) ho
  · rcases List.mem_append.mp hp with hp | hp
    · refine ⟨(kt p hp).1, fun e => ?_, ?_⟩
      · obtain ⟨oL, _, _, hL, _⟩ := F.ns
        have := (kt p hp).2
        rw [e, hL] at this; cases this
      · cases q : h₀.get? p.1 with
        | none => rfl
        | some o => have := (kt p hp).2; rw [F.keep _ _ q] at this; cases this
    · exact ⟨kp _ _ (N p hp).1, (N p hp).2⟩
  · have := (kt p hp).2
    rw [← e, (N q hq).1] at this; cases this
/-- a made tuple of three floats comes back -/
noncomputable def Out3 (x : UInt64 × UInt64 × UInt64) (tl : List (Addr × Obj)) (r : Value) : Prop :=
  ∃ (D : Addr) (t1 t2 t3 n : Nat), (t1 ≠ 0 ∧ t2 ≠ 0 ∧ t3 ≠ 0) ∧ r = .ref D ∧ tl = [(D, tupObj [.float x.1 t1, .float x.2.1 t2, .float x.2.2 t3] n)]
/-- three floats come back -/
theorem CtrT.use3 {w : World} {f : Addr} {dep : Nat} {vs : List Value} {Pre : Heap → Prop} {x : UInt64 × UInt64 × UInt64} (C : CtrT w f dep vs Pre (Out3 x))
    {mean : ExcName → Option Value} {mg mb : Str → Option Value} {dp un : Nat} {gd : Option (List Code)} {cn : Str} {cs : Scope} {a : Addr} {ccd : Value} {cl : List (Str × Addr)} {outer : List Env} {A₀ : Around} {base h₀ : Heap} {L : Addr} {m : Str → Option Value} {news : List (Addr × Obj)} {s : Shared}
    {Q E : Value → Shared → Prop} (B : Below A₀ base outer h₀) (F : Fr h₀ L s.heap m) (X : (Mine.hd.heap_1 w.params).In h₀) (N : News h₀ L s.heap news) (T : Top Mine.hd.view_1 (looseW Mine.hd.view_1 []) mean mg mb h₀) (hk : cs.kind = .function)
    (hp : Pre s.heap) (hd : dp + dep < recursionLimit) (hu : un + 8 * dep < cLine) (htk : 1 ≤ s.toks)
    (ret : ∀ D (a b c : Nat) n h' tk', a ≠ 0 → b ≠ 0 → c ≠ 0 → 1 ≤ tk' → Fr h₀ L h' m → News h₀ L h' ((D, tupObj [.float x.1 a, .float x.2.1 b, .float x.2.2 c] n) :: news) → AllNe D news → Q (.ref D) { s with heap := h', toks := tk' }) :
    wpAny (model PySem.Challenge.rw_pg0115_01.row.prog w) (ktrTop dp un gd cn cs L a ccd cl outer) (call (.ref f) vs) Q E s := by
  refine CtrT.use C B F X N T hk hp hd hu htk fun r tl h' tk' hpos F' N' hne ho => ?_
  obtain ⟨D, a, b, c, n, ⟨za, zb, zc⟩, rfl, rfl⟩ := ho
  exact ret D a b c n h' tk' za zb zc hpos F' N' (hne _ (.head _))
section
variable {prog : Program} {w : World} {A : Around} {E : Value → Shared → Prop} {s : Shared} {Q : Value → Shared → Prop}
theorem max3_z {x y z : UInt64} {t u v : Nat} {h₀ : Heap} {L : Addr} {m : Str → Option Value} {news : List (Addr × Obj)}
    (hh : A.handled = none) (F : Fr h₀ L s.heap m) (N : News h₀ L s.heap news) (zt : t ≠ 0) (zu : u ≠ 0) (zv : v ≠ 0)
    (h : ∀ h' tk (tt : Nat), tt ≠ 0 → Fr h₀ L h' m → News h₀ L h' news → Q (.float (mx (mx x y) z) tt) { s with heap := h', toks := tk }) :
    wpAny (model prog w) A (call (.builtin "max") [.float x t, .float y u, .float z v]) Q E s :=
  max3_f hh F N fun h' tk tt e F' N' => h h' tk tt (by rcases e with rfl | rfl | rfl <;> assumption) F' N'
theorem min3_z {x y z : UInt64} {t u v : Nat} {h₀ : Heap} {L : Addr} {m : Str → Option Value} {news : List (Addr × Obj)}
    (hh : A.handled = none) (F : Fr h₀ L s.heap m) (N : News h₀ L s.heap news) (zt : t ≠ 0) (zu : u ≠ 0) (zv : v ≠ 0)
    (h : ∀ h' tk (tt : Nat), tt ≠ 0 → Fr h₀ L h' m → News h₀ L h' news → Q (.float (mn (mn x y) z) tt) { s with heap := h', toks := tk }) :
    wpAny (model prog w) A (call (.builtin "min") [.float x t, .float y u, .float z v]) Q E s :=
  min3_f hh F N fun h' tk tt e F' N' => h h' tk tt (by rcases e with rfl | rfl | rfl <;> assumption) F' N'
end
end Mine
open PySem PySem.W PyProof.Rows
set_option Elab.async false
namespace Mine
theorem w_clear_C1 : True := by
  w_top off
  k_with_none
  k_with "callWith" => (k_here; (with_reducible show wpAny _ _ (callWith _ (Value.builtin _) (_ :: _) (backTo _ (starEach (_ :: _) _)) []) _ _ _); (with_reducible refine' PyProof.Rows.callWith_method1 ?_ ?he ?hp); (case he => k_dflt rfl); (case hp => k_dflt rfl))
  k_with "callWith" => (k_here; (with_reducible show wpAny _ _ (callWith _ (Value.builtin _) [] (backTo _ (starEach (_ :: _) _)) []) _ _ _); (with_reducible refine' PyProof.Rows.callWith_builtin1 ?_ ?he ?hp); (case he => k_dflt rfl); (case hp => k_dflt rfl))
  trivial
theorem w_words_C1_1 : True := by
  k_with "call builtin:max" => (k_here; (with_reducible show wpAny _ _ (call _ [Value.float _ _, Value.float _ _, Value.float _ _]) _ _ _); (refine' max3_z ?k0 ?k1 ?k2 ?kz1 ?kz2 ?kz3 ?_; (case k0 => with_unfolding_all rfl); (case k1 => k_asm); (case k2 => k_asm); (case kz1 => assumption); (case kz2 => assumption); (case kz3 => assumption); k_whole); intro h' tk' tt' ht' F' N')
  k_with "call builtin:min" => (k_here; (with_reducible show wpAny _ _ (call _ [Value.float _ _, Value.float _ _, Value.float _ _]) _ _ _); (refine' min3_z ?k0 ?k1 ?k2 ?kz1 ?kz2 ?kz3 ?_; (case k0 => with_unfolding_all rfl); (case k1 => k_asm); (case k2 => k_asm); (case kz1 => assumption); (case kz2 => assumption); (case kz3 => assumption); k_whole); intro h' tk' tt' ht' F' N')
  k_with "execs cons" => (k_here; k_dflt (refine' execs_tok ?hn ?_; (case hn => ((try dsimp only); omega)); k_whole))
  k_with "TokNext" => (intro tk9 hk9; (try dsimp only))
  trivial


noncomputable def hueF (r g b maxc rangec : UInt64) : UInt64 :=
  let rc := Float64.div (Float64.sub maxc r) rangec
  let gc := Float64.div (Float64.sub maxc g) rangec
  let bc := Float64.div (Float64.sub maxc b) rangec
  let h := bif Float64.cmp r maxc == some .eq then Float64.sub bc gc else bif Float64.cmp g maxc == some .eq then Float64.sub (Float64.add 4611686018427387904 rc) bc else Float64.sub (Float64.add 4616189618054758400 gc) rc
  (Float64.divmod (Float64.div h 4618441417868443648) 4607182418800017408).snd

noncomputable def hsvF (r g b : UInt64) : Option (UInt64 × UInt64 × UInt64) :=
  bif Float64.cmp (mn (mn r g) b) (mx (mx r g) b) == some .eq then none else
  bif Float64.isZero (mx (mx r g) b) then none else
  bif Float64.isZero (Float64.sub (mx (mx r g) b) (mn (mn r g) b)) then none else
  some (hueF r g b (mx (mx r g) b) (Float64.sub (mx (mx r g) b) (mn (mn r g) b)), Float64.div (Float64.sub (mx (mx r g) b) (mn (mn r g) b)) (mx (mx r g) b), mx (mx r g) b)

set_option maxRecDepth 100000 in
set_option maxHeartbeats 8000000 in
theorem c_hsv (w : World) {r g b : UInt64} (t1 t2 t3 : Nat) (z1 : t1 ≠ 0) (z2 : t2 ≠ 0) (z3 : t3 ≠ 0) {x : UInt64 × UInt64 × UInt64} (hyp : hsvF r g b = some x) : CtrT w 97 1 [.float r t1, .float g t2, .float b t3] (fun _ => True) (Out3 x) := by
  unfold CtrT
  k_fill
  intro mean mg mb dp un gd cn cs a ccd cl outer A₀ base h₀ L m s Q E B F X T hk hpre hd hu htk hret
  refine wpAny_call ?_
  k_dflt (refine' callV (P := fun _ => True) hpre ?k1 ?k2 ?k3 ?k5 ?kA ?kF ?kK ?k6 ?k7 ?k8 ?k9 ?kB ?_ ?c2 ?c3 ?c4 ?c5; (case kA => exact rfl); (case kF => exact rfl); (case kK => assumption); (case k1 => k_asm); (case k2 => k_asm); (case k3 => k_asm); (case k5 => k_asm); (case k6 => k_is); (case k7 => k_is); (case k8 => ktr_room); (case k9 => exact BindsTo.of_eq rfl); (case c5 => decide); (case kB => exact locs rfl); (case c2 => exact rfl); (case c3 => exact rfl); (case c4 => exact rfl); k_whole)
  intro g' L' h' hpre' hst' F' N' B' X' T'
  clear B F X T hpre
  (try dsimp only)
  (try k_fold)
  k_steps
  all_goals (
    unfold hsvF hueF at hyp
    simp only [*, cond_true, cond_false, reduceCtorEq] at hyp)
  all_goals (
    obtain rfl := Option.some.inj hyp
    exact hret _ [_] _ _ (kept_of hst' (by assumption)) (made_of hst' (by assumption) (fun _ h => h)) ⟨_, _, _, _, _, (by (refine ⟨?_, ?_, ?_⟩ <;> (try dsimp only) <;> omega)), rfl, rfl⟩)
end Mine
set_option Elab.async false
namespace Mine
open PySem PySem.Float64

theorem dist_eq_zero {a b : Nat} (h : Float64.dist a b = 0) : a = b := by unfold Float64.dist at h; omega

theorem right_unique {r r' : UInt64} {neg : Bool} {W D : Nat} (hD : 0 < D) (h : Right r neg W D) (h' : Right r' neg W D) : r = r' := by
  obtain ⟨t, rfl, hle, hinf, hn⟩ := h
  obtain ⟨t', rfl, hle', hinf', hn'⟩ := h'
  congr 1
  by_cases hi : D * ((2 ^ 54 - 1) * 2 ^ 2045) ≤ 2 * W
  · rw [hinf.mpr hi, hinf'.mpr hi]
  · have h1 : t < infMag := Nat.lt_of_le_of_ne hle fun e => hi (hinf.mp e)
    have h2 : t' < infMag := Nat.lt_of_le_of_ne hle' fun e => hi (hinf'.mp e)
    have a := hn h1
    have b := hn' h2
    have key : ∀ {u v : Nat}, u < v → (∀ x, Float64.dist W (D * V u) ≤ Float64.dist W (D * V x) ∧ (V x ≠ V u → Float64.dist W (D * V u) = Float64.dist W (D * V x) → u % 2 = 0)) →
        (∀ x, Float64.dist W (D * V v) ≤ Float64.dist W (D * V x) ∧ (V x ≠ V v → Float64.dist W (D * V v) = Float64.dist W (D * V x) → v % 2 = 0)) → False := by
      intro u v huv hu hv
      have hlt := V_lt huv
      have heq : Float64.dist W (D * V u) = Float64.dist W (D * V v) := Nat.le_antisymm (hu v).1 (hv u).1
      have e1 := (hu v).2 (Nat.ne_of_gt hlt) heq
      have e2 := (hv u).2 (Nat.ne_of_lt hlt) heq.symm
      have hm : u + 1 < v := by omega
      have v1 := V_succ u
      have v2 := V_lt hm
      have c := (hu (u + 1)).1
      have m1 : D * V u < D * V (u + 1) := Nat.mul_lt_mul_of_pos_left v1 hD
      have m2 : D * V (u + 1) < D * V v := Nat.mul_lt_mul_of_pos_left v2 hD
      generalize D * V u = x at *
      generalize D * V (u + 1) = y at *
      generalize D * V v = z at *
      unfold Float64.dist at heq c
      omega
    rcases Nat.lt_trichotomy t t' with h | h | h
    · exact (key h a b).elim
    · exact h
    · exact (key h b a).elim

theorem ofFrac_eq {neg : Bool} {n d n' d' : Nat} (hd : 0 < d) (hd' : 0 < d') (h : n * d' = n' * d) : ofFrac neg n d = ofFrac neg n' d' := by
  refine right_unique (W := n' * 2 ^ 1074) (D := d') hd' (ofFrac_right hd ?_ hd') (ofFrac_right hd' rfl hd')
  generalize (2 : Nat) ^ 1074 = K
  calc n * K * d' = (n * d') * K := by ac_rfl
    _ = (n' * d) * K := by rw [h]
    _ = n' * K * d := by ac_rfl

/-- n / 2^j is told to the last place -/
theorem exists_V {n j : Nat} (hn : n < 2 ^ 53) (hj : j ≤ 1000) : ∃ t, t < infMag ∧ V t = n * 2 ^ (1074 - j) := by
  by_cases h0 : n = 0
  · subst h0; exact ⟨0, by decide +kernel, by rw [V_zero, Nat.zero_mul]⟩
  · have hlo : n.log2 < 53 := (Nat.log2_lt h0).mpr hn
    have h1 : 2 ^ n.log2 ≤ n := Nat.log2_self_le h0
    have h2 : n < 2 ^ (n.log2 + 1) := Nat.lt_log2_self
    obtain ⟨z, hz⟩ : ∃ z, z + n.log2 = 52 := ⟨52 - n.log2, by omega⟩
    have q1 : 2 ^ 52 ≤ n * 2 ^ z := by
      rw [← hz, Nat.add_comm, Nat.pow_add]
      exact Nat.mul_le_mul_right _ h1
    have q2 : n * 2 ^ z < 2 ^ 53 := by
      have : (2 : Nat) ^ 53 = 2 ^ (n.log2 + 1) * 2 ^ z := by rw [← Nat.pow_add]; congr 1; omega
      rw [this]
      exact Nat.mul_lt_mul_of_pos_right h2 (Nat.two_pow_pos _)
    refine ⟨(1074 - j - z) * 2 ^ 52 + n * 2 ^ z, ?_, ?_⟩
    · have hk : 1074 - j - z ≤ 1074 := by omega
      have := Nat.mul_le_mul_right (2 ^ 52) hk
      exact Nat.lt_of_le_of_lt (Nat.add_le_add this (Nat.le_of_lt q2)) (by decide +kernel)
    · have hV := V_at (k := 1074 - j - z) (q := n * 2 ^ z) (Nat.le_of_lt q2) (.inl q1)
      refine hV.trans ?_
      rw [Nat.mul_assoc, ← Nat.pow_add, show z + (1074 - j - z) = 1074 - j by omega]

/-- a fraction of whole numbers -/
noncomputable def tdiv (a b : Int) : UInt64 := ofFrac (decide (a < 0) != decide (b < 0)) a.natAbs b.natAbs

theorem tdiv_pos {a b : Int} (hb : 0 < b) : tdiv a b = ofFrac (decide (a < 0)) a.natAbs b.natAbs := by
  unfold tdiv
  rw [show decide (b < 0) = false from decide_eq_false (by omega)]
  simp
theorem tdiv_eq {a b c d : Int} (hb : 0 < b) (hd : 0 < d) (h : a * d = c * b) : tdiv a b = tdiv c d := by
  rw [tdiv_pos hb, tdiv_pos hd]
  have hs : decide (a < 0) = decide (c < 0) := by
    have : a < 0 ↔ c < 0 := by
      constructor
      · intro ha
        have h1 : a * d < 0 := Int.mul_neg_of_neg_of_pos ha hd
        rw [h] at h1
        exact Int.not_le.mp fun hc => Int.not_lt.mpr (Int.mul_nonneg hc (Int.le_of_lt hb)) h1
      · intro hc
        have h1 : c * b < 0 := Int.mul_neg_of_neg_of_pos hc hb
        rw [← h] at h1
        exact Int.not_le.mp fun ha => Int.not_lt.mpr (Int.mul_nonneg ha (Int.le_of_lt hd)) h1
    simp [this]
  rw [hs]
  refine ofFrac_eq (by omega) (by omega) ?_
  rw [← Int.natAbs_mul, ← Int.natAbs_mul, h]

set_option exponentiation.threshold 3000 in
/-- what is told to the last place -/
theorem texact {a : Int} {d j : Nat} (hd : d = 2 ^ j) (hj : j ≤ 1000) (ha : a.natAbs < 2 ^ 53) : ∃ m e, decode (tdiv a d) = .fin (decide (a < 0)) m e ∧ val (tdiv a d) * d = a * 2 ^ 1074 := by
  subst hd
  have hp : 0 < 2 ^ j := Nat.two_pow_pos j
  rw [tdiv_pos (by omega)]
  obtain ⟨t₀, ht₀, hV₀⟩ := exists_V ha hj
  have hnat : ((2 ^ j : Nat) : Int).natAbs = 2 ^ j := Int.natAbs_natCast _
  rw [hnat]
  obtain ⟨t, hr, hle, hinf, hn⟩ := ofFrac_right (neg := decide (a < 0)) (n := a.natAbs) (d := 2 ^ j) (W := V t₀) (D := 1) hp (by
    rw [hV₀, Nat.mul_one, Nat.mul_assoc, ← Nat.pow_add, show 1074 - j + j = 1074 by omega]) (by decide)
  have hlt : t < infMag := Nat.lt_of_le_of_ne hle fun e => by
    have h1 := hinf.mp e
    have h2 : V t₀ ≤ V (infMag - 1) := V_mono (Nat.le_sub_one_of_lt ht₀)
    have h4 : 2 * V (infMag - 1) < (2 ^ 54 - 1) * 2 ^ 2045 := by decide +kernel
    rw [Nat.one_mul] at h1
    exact absurd (Nat.lt_of_le_of_lt (Nat.le_trans h1 (Nat.mul_le_mul_left 2 h2)) h4) (Nat.lt_irrefl _)
  have hd0 := (hn hlt t₀).1
  rw [Nat.one_mul, Nat.one_mul] at hd0
  have hz : Float64.dist (V t₀) (V t₀) = 0 := by unfold Float64.dist; omega
  rw [hz] at hd0
  have hV : V t = V t₀ := (dist_eq_zero (Nat.le_zero.mp hd0)).symm
  obtain ⟨m, e, hdec, hme⟩ := decode_pack (decide (a < 0)) hlt
  refine ⟨m, e, by rw [hr]; exact hdec, ?_⟩
  rw [hr, val_pack _ hlt, hV, hV₀, sgn_mul]
  have hs : sgn (decide (a < 0)) a.natAbs = a := by
    unfold sgn
    by_cases h : a < 0
    · rw [decide_eq_true h, if_pos rfl]; omega
    · rw [decide_eq_false h, if_neg (by decide)]; omega
  rw [hs, Int.mul_assoc, ← Int.natCast_mul, ← Nat.pow_add, show 1074 - j + j = 1074 by omega]
  rfl

section
variable {a b : Int} {d j : Nat}
theorem val_inj_mul {x y : Int} {d : Nat} (hd : 0 < d) (h : x * d = y * d) : x = y := Int.eq_of_mul_eq_mul_right (by omega) h

/-- a float is right for a fraction: it is the fraction's -/
theorem tdiv_of_right {r : UInt64} {p q : Int} {W D : Nat} (hq : 0 < q) (hD : 0 < D) (h : Right r (decide (p < 0)) W D) (hW : p.natAbs * 2 ^ 1074 * D = W * q.natAbs) : r = tdiv p q := by
  rw [tdiv_pos hq]
  exact right_unique hD h (ofFrac_right (by omega) hW hD)
theorem zero_tdiv {d : Int} (hd : 0 < d) : zero false = tdiv 0 d := by
  rw [tdiv_pos hd]
  unfold zero ofFrac
  rw [show roundMag (Int.natAbs 0) d.natAbs = 0 from by unfold roundMag; rfl]
  rfl
theorem K_abs {K : Int} (h : (2 : Int) ^ 1074 = K) : K.natAbs = 2 ^ 1074 := by rw [← h, Int.natAbs_pow]; rfl

theorem tdiv_sub (hd : d = 2 ^ j) (hj : j ≤ 1000) (ha : a.natAbs < 2 ^ 53) (hb : b.natAbs < 2 ^ 53) : sub (tdiv a d) (tdiv b d) = tdiv (a - b) d := by
  have hp : 0 < d := by rw [hd]; exact Nat.two_pow_pos j
  obtain ⟨m, e, hx, vx⟩ := texact (a := a) hd hj ha
  obtain ⟨k, f, hy, vy⟩ := texact (a := b) hd hj hb
  have hv : (val (tdiv a d) - val (tdiv b d)) * d = (a - b) * 2 ^ 1074 := by rw [Int.sub_mul, vx, vy, Int.sub_mul]
  generalize hK : (2 : Int) ^ 1074 = K at *
  have hKp : 0 < K := by rw [← hK]; exact Int.pow_pos (by decide)
  have hs := sub_right hx hy
  by_cases hab : a = b
  · have hz : val (tdiv a d) - val (tdiv b d) = 0 := by
      subst hab
      exact Int.sub_self _
    rw [hs.1 hz, hab, Int.sub_self]
    rw [show (decide (b < 0) && !decide (b < 0)) = false from by cases decide (b < 0) <;> rfl]
    exact zero_tdiv (by omega)
  · have hne : val (tdiv a d) - val (tdiv b d) ≠ 0 := fun h => by
      rw [h, Int.zero_mul] at hv
      rcases Int.mul_eq_zero.mp hv.symm with h | h <;> omega
    have hr := hs.2 hne
    have hsgn : decide (val (tdiv a d) - val (tdiv b d) < 0) = decide (a - b < 0) := by
      generalize val (tdiv a d) - val (tdiv b d) = v at *
      have : v < 0 ↔ a - b < 0 := by
        constructor
        · intro h
          have h1 : v * d < 0 := Int.mul_neg_of_neg_of_pos h (by omega)
          rw [hv] at h1
          exact Int.not_le.mp fun hc => Int.not_lt.mpr (Int.mul_nonneg hc (Int.le_of_lt hKp)) h1
        · intro h
          have h1 : (a - b) * K < 0 := Int.mul_neg_of_neg_of_pos h hKp
          rw [← hv] at h1
          exact Int.not_le.mp fun hc => Int.not_lt.mpr (Int.mul_nonneg hc (by omega)) h1
      simp [this]
    rw [hsgn] at hr
    refine tdiv_of_right (by omega) (by decide) hr ?_
    have h2 := congrArg Int.natAbs hv
    rw [Int.natAbs_mul, Int.natAbs_mul, Int.natAbs_natCast] at h2
    rw [Nat.mul_one, Int.natAbs_natCast, h2, K_abs hK]

theorem tdiv_add (hd : d = 2 ^ j) (hj : j ≤ 1000) (ha : a.natAbs < 2 ^ 53) (hb : b.natAbs < 2 ^ 53) : add (tdiv a d) (tdiv b d) = tdiv (a + b) d := by
  have hp : 0 < d := by rw [hd]; exact Nat.two_pow_pos j
  obtain ⟨m, e, hx, vx⟩ := texact (a := a) hd hj ha
  obtain ⟨k, f, hy, vy⟩ := texact (a := b) hd hj hb
  have hv : (val (tdiv a d) + val (tdiv b d)) * d = (a + b) * 2 ^ 1074 := by rw [Int.add_mul, vx, vy, Int.add_mul]
  generalize hK : (2 : Int) ^ 1074 = K at *
  have hKp : 0 < K := by rw [← hK]; exact Int.pow_pos (by decide)
  have hs := add_right hx hy
  by_cases hab : a + b = 0
  · have hz : val (tdiv a d) + val (tdiv b d) = 0 := by
      rw [hab, Int.zero_mul] at hv
      rcases Int.mul_eq_zero.mp hv with h | h
      · exact h
      · omega
    rw [hs.1 hz, hab]
    rw [show (decide (a < 0) && decide (b < 0)) = false from by
      by_cases h : a < 0
      · rw [decide_eq_false (show ¬ b < 0 by omega), Bool.and_false]
      · rw [decide_eq_false h, Bool.false_and]]
    exact zero_tdiv (by omega)
  · have hne : val (tdiv a d) + val (tdiv b d) ≠ 0 := fun h => by
      rw [h, Int.zero_mul] at hv
      rcases Int.mul_eq_zero.mp hv.symm with h | h <;> omega
    have hr := hs.2 hne
    have hsgn : decide (val (tdiv a d) + val (tdiv b d) < 0) = decide (a + b < 0) := by
      generalize val (tdiv a d) + val (tdiv b d) = v at *
      have : v < 0 ↔ a + b < 0 := by
        constructor
        · intro h
          have h1 : v * d < 0 := Int.mul_neg_of_neg_of_pos h (by omega)
          rw [hv] at h1
          exact Int.not_le.mp fun hc => Int.not_lt.mpr (Int.mul_nonneg hc (Int.le_of_lt hKp)) h1
        · intro h
          have h1 : (a + b) * K < 0 := Int.mul_neg_of_neg_of_pos h hKp
          rw [← hv] at h1
          exact Int.not_le.mp fun hc => Int.not_lt.mpr (Int.mul_nonneg hc (by omega)) h1
      simp [this]
    rw [hsgn] at hr
    refine tdiv_of_right (by omega) (by decide) hr ?_
    have h2 := congrArg Int.natAbs hv
    rw [Int.natAbs_mul, Int.natAbs_mul, Int.natAbs_natCast] at h2
    rw [Nat.mul_one, Int.natAbs_natCast, h2, K_abs hK]

theorem tdiv_mul {c i : Nat} (hc : c = 2 ^ i) (hi : i ≤ 1000) (hd : d = 2 ^ j) (hj : j ≤ 1000) (ha : a.natAbs < 2 ^ 53) (hb : b.natAbs < 2 ^ 53) (ha0 : 0 ≤ a) (hb0 : 0 ≤ b) : mul (tdiv a c) (tdiv b d) = tdiv (a * b) ((c * d : Nat) : Int) := by
  have hp : 0 < d := by rw [hd]; exact Nat.two_pow_pos j
  have hq : 0 < c := by rw [hc]; exact Nat.two_pow_pos i
  obtain ⟨m, e, hx, vx⟩ := texact (a := a) hc hi ha
  obtain ⟨k, f, hy, vy⟩ := texact (a := b) hd hj hb
  have hr := mul_right hx hy
  have hs : (decide (a < 0) != decide (b < 0)) = decide (a * b < 0) := by
    rw [decide_eq_false (show ¬ a < 0 by omega), decide_eq_false (show ¬ b < 0 by omega), decide_eq_false (show ¬ a * b < 0 from Int.not_lt.mpr (Int.mul_nonneg ha0 hb0))]
    rfl
  rw [hs] at hr
  refine tdiv_of_right (by have := Nat.mul_pos hq hp; omega) (Nat.two_pow_pos _) hr ?_
  have h1 := congrArg Int.natAbs vx
  have h2 := congrArg Int.natAbs vy
  rw [Int.natAbs_mul, Int.natAbs_mul, Int.natAbs_natCast] at h1 h2
  rw [K_abs rfl] at h1 h2
  rw [Int.natAbs_mul, Int.natAbs_natCast]
  generalize (2 : Nat) ^ 1074 = K at *
  calc a.natAbs * b.natAbs * K * K = (a.natAbs * K) * (b.natAbs * K) := by ac_rfl
    _ = ((val (tdiv a c)).natAbs * c) * ((val (tdiv b d)).natAbs * d) := by rw [h1, h2]
    _ = _ := by ac_rfl

theorem tdiv_div (hd : d = 2 ^ j) (hj : j ≤ 1000) (ha : a.natAbs < 2 ^ 53) (hb : b.natAbs < 2 ^ 53) (hb0 : 0 < b) : div (tdiv a d) (tdiv b d) = tdiv a b := by
  have hp : 0 < d := by rw [hd]; exact Nat.two_pow_pos j
  obtain ⟨m, e, hx, vx⟩ := texact (a := a) hd hj ha
  obtain ⟨k, f, hy, vy⟩ := texact (a := b) hd hj hb
  have h1 := congrArg Int.natAbs vx
  have h2 := congrArg Int.natAbs vy
  rw [Int.natAbs_mul, Int.natAbs_mul, Int.natAbs_natCast] at h1 h2
  rw [K_abs rfl] at h1 h2
  have hK : 0 < (2 : Nat) ^ 1074 := Nat.two_pow_pos _
  have hy0 : (val (tdiv b d)).natAbs ≠ 0 := fun h => by
    rw [h, Nat.zero_mul] at h2
    generalize (2 : Nat) ^ 1074 = K at *
    rcases Nat.mul_eq_zero.mp h2.symm with h | h <;> omega
  have hk : k ≠ 0 := fun h => by
    rw [val_natAbs hy, h, Nat.zero_mul] at hy0
    exact hy0 rfl
  have hr := div_right hx hy hk
  rw [decide_eq_false (show ¬ b < 0 by omega), Bool.bne_false] at hr
  refine tdiv_of_right hb0 (Nat.pos_of_ne_zero hy0) hr ?_
  generalize (2 : Nat) ^ 1074 = K at *
  have h3 : a.natAbs * K * (val (tdiv b d)).natAbs * d = (val (tdiv a d)).natAbs * K * b.natAbs * d := by
    calc a.natAbs * K * (val (tdiv b d)).natAbs * d = (a.natAbs * K) * ((val (tdiv b d)).natAbs * d) := by ac_rfl
      _ = ((val (tdiv a d)).natAbs * d) * (b.natAbs * K) := by rw [h1, h2]
      _ = _ := by ac_rfl
  exact Nat.eq_of_mul_eq_mul_right hp h3

theorem tdiv_cmp (hd : d = 2 ^ j) (hj : j ≤ 1000) (ha : a.natAbs < 2 ^ 53) (hb : b.natAbs < 2 ^ 53) : cmp (tdiv a d) (tdiv b d) = some (compare a b) := by
  have hp : 0 < d := by rw [hd]; exact Nat.two_pow_pos j
  obtain ⟨m, e, hx, vx⟩ := texact (a := a) hd hj ha
  obtain ⟨k, f, hy, vy⟩ := texact (a := b) hd hj hb
  rw [cmp_right hx hy]
  generalize hK : (2 : Int) ^ 1074 = K at *
  have hKp : 0 < K := by rw [← hK]; exact Int.pow_pos (by decide)
  generalize val (tdiv a d) = x at *
  generalize val (tdiv b d) = y at *
  have hl : x < y ↔ a < b := by
    rw [← Int.mul_lt_mul_right (show (0 : Int) < d by omega), vx, vy, Int.mul_lt_mul_right hKp]
  have hg : y < x ↔ b < a := by
    rw [← Int.mul_lt_mul_right (show (0 : Int) < d by omega), vx, vy, Int.mul_lt_mul_right hKp]
  congr 1
  rcases Int.lt_trichotomy a b with h | h | h
  · rw [show compare x y = .lt from by simp [compare, compareOfLessAndEq, hl.mpr h], show compare a b = .lt from by simp [compare, compareOfLessAndEq, h]]
  · have hxy : x = y := by
      have h1 := mt hl.mp (by omega)
      have h2 := mt hg.mp (by omega)
      omega
    rw [hxy, h]
    simp [compare, compareOfLessAndEq]
  · have h1 := hg.mpr h
    rw [show compare x y = .gt from by simp [compare, compareOfLessAndEq, show ¬ x < y by omega, show x ≠ y by omega], show compare a b = .gt from by simp [compare, compareOfLessAndEq, show ¬ a < b by omega, show a ≠ b by omega]]

theorem tdiv_isZero (hd : d = 2 ^ j) (hj : j ≤ 1000) (ha : a.natAbs < 2 ^ 53) : isZero (tdiv a d) = decide (a = 0) := by
  have hp : 0 < d := by rw [hd]; exact Nat.two_pow_pos j
  obtain ⟨m, e, hx, vx⟩ := texact (a := a) hd hj ha
  have h1 := congrArg Int.natAbs vx
  rw [Int.natAbs_mul, Int.natAbs_mul, Int.natAbs_natCast, val_natAbs hx] at h1
  have hiff : m = 0 ↔ a = 0 := by
    rw [K_abs rfl] at h1
    have hK : 0 < (2 : Nat) ^ 1074 := Nat.two_pow_pos _
    have hE : 0 < (2 : Nat) ^ (e + 1074).toNat := Nat.two_pow_pos _
    generalize (2 : Nat) ^ 1074 = K at *
    generalize (2 : Nat) ^ (e + 1074).toNat = X at *
    constructor
    · intro h
      rw [h, Nat.zero_mul, Nat.zero_mul] at h1
      rcases Nat.mul_eq_zero.mp h1.symm with h | h <;> omega
    · intro h
      rw [h, show Int.natAbs 0 = 0 from rfl, Nat.zero_mul] at h1
      rcases Nat.mul_eq_zero.mp h1 with h | h
      · rcases Nat.mul_eq_zero.mp h with h | h <;> omega
      · omega
  unfold isZero
  rw [hx]
  cases m with
  | zero => show true = decide (a = 0); exact (decide_eq_true (hiff.mp rfl)).symm
  | succ m => show false = decide (a = 0); exact (decide_eq_false (mt hiff.mpr (by omega))).symm
theorem tdiv_finite (hd : d = 2 ^ j) (hj : j ≤ 1000) (ha : a.natAbs < 2 ^ 53) : isFinite (tdiv a d) = true := by
  obtain ⟨m, e, hx, _⟩ := texact (a := a) hd hj ha
  unfold isFinite
  rw [hx]
end
end Mine
open PySem PySem.W PyProof.Rows
set_option Elab.async false
namespace Mine
/-! colours by whole numbers -/
noncomputable def mn2 (a b : Int) : Int := if b < a then b else a
noncomputable def mx2 (a b : Int) : Int := if b > a then b else a
noncomputable def fall (p c : Int) : Int := mn2 (mx2 (mn2 ((3 * p - c).fmod 192) (192 - (3 * p - c).fmod 192) - 32) 0) 32
noncomputable def num (p s l c : Int) : Int := (l + 1) * (128 - s * fall p c)
noncomputable def col (p s l c : Int) : UInt64 := tdiv (num p s l c) 2048
theorem fall_range (p c : Int) : 0 ≤ fall p c ∧ fall p c ≤ 32 := by
  unfold fall mn2 mx2
  generalize (3 * p - c).fmod 192 = x
  constructor <;> (repeat' split) <;> omega
theorem num_range {s l : Int} (p c : Int) (h3 : 1 ≤ s) (h4 : s ≤ 4) (h5 : 0 ≤ l) (h6 : l < 16) : 0 ≤ num p s l c ∧ num p s l c ≤ 2048 := by
  unfold num
  have hf := fall_range p c
  generalize fall p c = x at hf
  have h : 0 ≤ 128 - s * x ∧ 128 - s * x ≤ 128 := by
    rcases (show s = 1 ∨ s = 2 ∨ s = 3 ∨ s = 4 by omega) with rfl | rfl | rfl | rfl <;> omega
  generalize 128 - s * x = y at h
  refine ⟨Int.mul_nonneg (by omega) h.1, ?_⟩
  have := Int.mul_le_mul (show l + 1 ≤ 16 by omega) h.2 h.1 (by decide)
  omega
set_option maxRecDepth 100000 in
theorem notInf_small : (List.range 2049).all (fun n => !(Float64.isInf (Float64.ofFrac false n 2048))) = true := by decide +kernel
theorem col_ni {s l : Int} (p c : Int) (h3 : 1 ≤ s) (h4 : s ≤ 4) (h5 : 0 ≤ l) (h6 : l < 16) : ¬ Float64.isInf (col p s l c) = true := by
  have h := num_range p c h3 h4 h5 h6
  unfold col tdiv
  rw [show decide (num p s l c < 0) = false from decide_eq_false (by omega)]
  have := List.all_eq_true.mp notInf_small (num p s l c).natAbs (by rw [List.mem_range]; omega)
  simpa using this
end Mine
open PySem PySem.W PyProof.Rows
set_option Elab.async false
namespace Mine
theorem w_clear_C2 : True := by
  w_top off
  k_with_none
  k_with "callWith" => (k_here; (with_reducible show wpAny _ _ (callWith _ (Value.builtin _) (_ :: _) (backTo _ (starEach (_ :: _) _)) []) _ _ _); (with_reducible refine' PyProof.Rows.callWith_method1 ?_ ?he ?hp); (case he => k_dflt rfl); (case hp => k_dflt rfl))
  k_with "callWith" => (k_here; (with_reducible show wpAny _ _ (callWith _ (Value.builtin _) [] (backTo _ (starEach (_ :: _) _)) []) _ _ _); (with_reducible refine' PyProof.Rows.callWith_builtin1 ?_ ?he ?hp); (case he => k_dflt rfl); (case hp => k_dflt rfl))
  trivial
theorem w_words_C2_1 : True := by
  k_with "call builtin:max" => (k_here; (with_reducible show wpAny _ _ (call _ [Value.float _ _, Value.float _ _, Value.float _ _]) _ _ _); (refine' max3_z ?k0 ?k1 ?k2 ?kz1 ?kz2 ?kz3 ?_; (case k0 => with_unfolding_all rfl); (case k1 => k_asm); (case k2 => k_asm); (case kz1 => assumption); (case kz2 => assumption); (case kz3 => assumption); k_whole); intro h' tk' tt' ht' F' N')
  k_with "call builtin:min" => (k_here; (with_reducible show wpAny _ _ (call _ [Value.float _ _, Value.float _ _, Value.float _ _]) _ _ _); (refine' min3_z ?k0 ?k1 ?k2 ?kz1 ?kz2 ?kz3 ?_; (case k0 => with_unfolding_all rfl); (case k1 => k_asm); (case k2 => k_asm); (case kz1 => assumption); (case kz2 => assumption); (case kz3 => assumption); k_whole); intro h' tk' tt' ht' F' N')
  k_with "execs cons" => (k_here; k_dflt (refine' execs_tok ?hn ?_; (case hn => ((try dsimp only); omega)); k_whole))
  k_with "TokNext" => (intro tk9 hk9; (try dsimp only))
  trivial


noncomputable def hlsF (r g b : UInt64) : Option (UInt64 × UInt64 × UInt64) :=
  bif Float64.cmp (mn (mn r g) b) (mx (mx r g) b) == some .eq then none else
  let l := Float64.div (Float64.add (mx (mx r g) b) (mn (mn r g) b)) 4611686018427387904
  let d := bif Float64.cmp l 4602678819172646912 == some .lt || Float64.cmp l 4602678819172646912 == some .eq then Float64.add (mx (mx r g) b) (mn (mn r g) b) else Float64.sub (Float64.sub 4611686018427387904 (mx (mx r g) b)) (mn (mn r g) b)
  bif Float64.isZero d then none else
  bif Float64.isZero (Float64.sub (mx (mx r g) b) (mn (mn r g) b)) then none else
  some (hueF r g b (mx (mx r g) b) (Float64.sub (mx (mx r g) b) (mn (mn r g) b)), l, Float64.div (Float64.sub (mx (mx r g) b) (mn (mn r g) b)) d)

set_option maxRecDepth 100000 in
set_option maxHeartbeats 8000000 in
theorem c_hls (w : World) {r g b : UInt64} (t1 t2 t3 : Nat) (z1 : t1 ≠ 0) (z2 : t2 ≠ 0) (z3 : t3 ≠ 0) {x : UInt64 × UInt64 × UInt64} (hyp : hlsF r g b = some x) : CtrT w 90 1 [.float r t1, .float g t2, .float b t3] (fun _ => True) (Out3 x) := by
  unfold CtrT
  k_fill
  intro mean mg mb dp un gd cn cs a ccd cl outer A₀ base h₀ L m s Q E B F X T hk hpre hd hu htk hret
  refine wpAny_call ?_
  k_dflt (refine' callV (P := fun _ => True) hpre ?k1 ?k2 ?k3 ?k5 ?kA ?kF ?kK ?k6 ?k7 ?k8 ?k9 ?kB ?_ ?c2 ?c3 ?c4 ?c5; (case kA => exact rfl); (case kF => exact rfl); (case kK => assumption); (case k1 => k_asm); (case k2 => k_asm); (case k3 => k_asm); (case k5 => k_asm); (case k6 => k_is); (case k7 => k_is); (case k8 => ktr_room); (case k9 => exact BindsTo.of_eq rfl); (case c5 => decide); (case kB => exact locs rfl); (case c2 => exact rfl); (case c3 => exact rfl); (case c4 => exact rfl); k_whole)
  intro g' L' h' hpre' hst' F' N' B' X' T'
  clear B F X T hpre
  (try dsimp only)
  (try k_fold)
  k_steps
  all_goals (
    unfold hlsF hueF at hyp
    simp only [*, cond_true, cond_false, reduceCtorEq] at hyp)
  all_goals (
    obtain rfl := Option.some.inj hyp
    exact hret _ [_] _ _ (kept_of hst' (by assumption)) (made_of hst' (by assumption) (fun _ h => h)) ⟨_, _, _, _, _, (by (refine ⟨?_, ?_, ?_⟩ <;> (try dsimp only) <;> omega)), rfl, rfl⟩)
end Mine
open PySem PySem.W PyProof.Rows
set_option Elab.async false
namespace Mine
theorem w_clear_C3 : True := by
  w_top off
  k_with_none
  k_with "callWith" => (k_here; (with_reducible show wpAny _ _ (callWith _ (Value.builtin _) (_ :: _) (backTo _ (starEach (_ :: _) _)) []) _ _ _); (with_reducible refine' PyProof.Rows.callWith_method1 ?_ ?he ?hp); (case he => k_dflt rfl); (case hp => k_dflt rfl))
  k_with "callWith" => (k_here; (with_reducible show wpAny _ _ (callWith _ (Value.builtin _) [] (backTo _ (starEach (_ :: _) _)) []) _ _ _); (with_reducible refine' PyProof.Rows.callWith_builtin1 ?_ ?he ?hp); (case he => k_dflt rfl); (case hp => k_dflt rfl))
  trivial
theorem w_words_C3_1 : True := by
  k_with "call builtin:max" => (k_here; (with_reducible show wpAny _ _ (call _ [Value.float _ _, Value.float _ _, Value.float _ _]) _ _ _); (refine' max3_z ?k0 ?k1 ?k2 ?kz1 ?kz2 ?kz3 ?_; (case k0 => with_unfolding_all rfl); (case k1 => k_asm); (case k2 => k_asm); (case kz1 => assumption); (case kz2 => assumption); (case kz3 => assumption); k_whole); intro h' tk' tt' ht' F' N')
  k_with "call builtin:min" => (k_here; (with_reducible show wpAny _ _ (call _ [Value.float _ _, Value.float _ _, Value.float _ _]) _ _ _); (refine' min3_z ?k0 ?k1 ?k2 ?kz1 ?kz2 ?kz3 ?_; (case k0 => with_unfolding_all rfl); (case k1 => k_asm); (case k2 => k_asm); (case kz1 => assumption); (case kz2 => assumption); (case kz3 => assumption); k_whole); intro h' tk' tt' ht' F' N')
  k_with "execs cons" => (k_here; k_dflt (refine' execs_tok ?hn ?_; (case hn => ((try dsimp only); omega)); k_whole))
  k_with "TokNext" => (intro tk9 hk9; (try dsimp only))
  trivial



theorem fin_nan {x : UInt64} (h : Float64.isFinite x = true) : Float64.isNaN x = false := by
  unfold Float64.isFinite at h
  unfold Float64.isNaN
  split at h <;> simp_all
theorem fin_inf {x : UInt64} (h : Float64.isFinite x = true) : Float64.isInf x = false := by
  unfold Float64.isFinite at h
  unfold Float64.isInf
  split at h <;> simp_all
theorem small_big {i : Int} (h0 : 0 ≤ i) (h1 : i < 12) : i.natAbs < 2 ^ 1024 - 2 ^ 970 := Nat.lt_of_lt_of_le (show i.natAbs < 12 by omega) (by decide +kernel)

noncomputable def rgbX (h s v : UInt64) (i : Int) : UInt64 × UInt64 × UInt64 :=
  let f := Float64.sub (Float64.mul h 4618441417868443648) (Float64.ofInt i)
  let p := Float64.mul v (Float64.sub 4607182418800017408 s)
  let q := Float64.mul v (Float64.sub 4607182418800017408 (Float64.mul s f))
  let t := Float64.mul v (Float64.sub 4607182418800017408 (Float64.mul s (Float64.sub 4607182418800017408 f)))
  if i.fmod 6 = 0 then (v, t, p) else if i.fmod 6 = 1 then (q, v, p) else if i.fmod 6 = 2 then (p, v, t) else if i.fmod 6 = 3 then (p, q, v) else if i.fmod 6 = 4 then (t, p, v) else (v, p, q)

set_option maxRecDepth 100000 in
set_option maxHeartbeats 8000000 in
theorem c_rgb (w : World) {h s v : UInt64} (t1 t2 t3 : Nat) (z1 : t1 ≠ 0) (z2 : t2 ≠ 0) (z3 : t3 ≠ 0) {i : Int} (y1 : (Float64.cmp s 0 == some Ordering.eq) = false) (y2 : Float64.isFinite (Float64.mul h 4618441417868443648) = true)
    (y3 : Flt.toInt Float64.truncOf (Float64.mul h 4618441417868443648) = i) (y4 : 0 ≤ i) (y5 : i < 12) : CtrT w 104 1 [.float h t1, .float s t2, .float v t3] (fun _ => True) (Out3 (rgbX h s v i)) := by
  unfold CtrT
  k_fill
  intro mean mg mb dp un gd cn cs a ccd cl outer A₀ base h₀ L m s Q E B F X T hk hpre hd hu htk hret
  refine wpAny_call ?_
  k_dflt (refine' callV (P := fun _ => True) hpre ?k1 ?k2 ?k3 ?k5 ?kA ?kF ?kK ?k6 ?k7 ?k8 ?k9 ?kB ?_ ?c2 ?c3 ?c4 ?c5; (case kA => exact rfl); (case kF => exact rfl); (case kK => assumption); (case k1 => k_asm); (case k2 => k_asm); (case k3 => k_asm); (case k5 => k_asm); (case k6 => k_is); (case k7 => k_is); (case k8 => ktr_room); (case k9 => exact BindsTo.of_eq rfl); (case c5 => decide); (case kB => exact locs rfl); (case c2 => exact rfl); (case c3 => exact rfl); (case c4 => exact rfl); k_whole)
  intro g' L' h' hpre' hst' F' N' B' X' T'
  clear B F X T hpre
  (try dsimp only)
  (try k_fold)
  k_steps
  all_goals (try (exfalso; simp only [*, reduceCtorEq] at y1; done))
  all_goals (try (exfalso; have y6 := fin_nan y2; simp only [*, reduceCtorEq] at y6; done))
  all_goals (try (exfalso; have y6 := fin_inf y2; simp only [*, reduceCtorEq] at y6; done))
  all_goals (try (exfalso; have y6 := small_big y4 y5; rw [y3] at *; exact absurd y6 (by assumption)))
  all_goals (try (exfalso; rw [y3] at *; have y6 := Int.fmod_nonneg y4 (show (0 : Int) ≤ 6 by decide); have y7 := Int.fmod_lt_of_pos i (show (0 : Int) < 6 by decide); omega))
  all_goals (
    refine hret _ [_] _ _ (kept_of hst' (by assumption)) (made_of hst' (by assumption) (fun _ h => h)) ?_
    unfold rgbX
    rw [y3] at *
    simp only [*, if_true, if_false, ne_eq, not_false_eq_true]
    exact ⟨_, _, _, _, _, (by (refine ⟨?_, ?_, ?_⟩ <;> (try dsimp only) <;> omega)), rfl, rfl⟩)
end Mine
open PySem PySem.W PyProof.Rows
set_option Elab.async false
namespace Mine
open PySem.Float64
noncomputable def SpotOk (p l s : Int) : Prop := 0 ≤ p ∧ p < 64 ∧ 0 ≤ l ∧ l < 16 ∧ 1 ≤ s ∧ s ≤ 4
/-- a light of the colour, by how far it falls -/
noncomputable def gF (K s f : Int) : UInt64 := tdiv (K * (128 - s * f)) (2048 : Nat)
section
variable {K s x y : Int}
theorem g_range (hK : 1 ≤ K) (hK' : K ≤ 16) (hs : 1 ≤ s) (hs' : s ≤ 4) (hx : 0 ≤ x) (hx' : x ≤ 32) : 0 ≤ K * (128 - s * x) ∧ K * (128 - s * x) ≤ 2048 := by
  have h : 0 ≤ 128 - s * x ∧ 128 - s * x ≤ 128 := by
    rcases (show s = 1 ∨ s = 2 ∨ s = 3 ∨ s = 4 by omega) with rfl | rfl | rfl | rfl <;> omega
  generalize 128 - s * x = z at h
  refine ⟨Int.mul_nonneg (by omega) h.1, ?_⟩
  have := Int.mul_le_mul hK' h.2 h.1 (by decide)
  omega
theorem small {a : Int} (h : 0 ≤ a ∧ a ≤ 65536) : a.natAbs < 2 ^ 53 := by
  have : a.natAbs ≤ 65536 := by omega
  exact Nat.lt_of_le_of_lt this (by decide)
theorem small' {a : Int} (h : -65536 ≤ a ∧ a ≤ 65536) : a.natAbs < 2 ^ 53 := by
  have : a.natAbs ≤ 65536 := by omega
  exact Nat.lt_of_le_of_lt this (by decide)
theorem g_lt (hK : 1 ≤ K) (hs : 1 ≤ s) (hs' : s ≤ 4) : K * (128 - s * x) < K * (128 - s * y) ↔ y < x := by
  rw [Int.mul_lt_mul_left (by omega)]
  rcases (show s = 1 ∨ s = 2 ∨ s = 3 ∨ s = 4 by omega) with rfl | rfl | rfl | rfl <;> omega
theorem g_cmp (hK : 1 ≤ K) (hK' : K ≤ 16) (hs : 1 ≤ s) (hs' : s ≤ 4) (hx : 0 ≤ x) (hx' : x ≤ 32) (hy : 0 ≤ y) (hy' : y ≤ 32) : cmp (gF K s x) (gF K s y) = some (compare y x) := by
  have r1 := g_range hK hK' hs hs' hx hx'
  have r2 := g_range hK hK' hs hs' hy hy'
  unfold gF
  rw [tdiv_cmp (j := 11) rfl (by decide) (small ⟨r1.1, by omega⟩) (small ⟨r2.1, by omega⟩)]
  congr 1
  have l1 := g_lt (K := K) (x := x) (y := y) hK hs hs'
  have l2 := g_lt (K := K) (x := y) (y := x) hK hs hs'
  rcases Int.lt_trichotomy x y with h | h | h
  · have := l2.mpr h
    simp [compare, compareOfLessAndEq, show ¬ y < x by omega, show y ≠ x by omega, show ¬ K * (128 - s * x) < K * (128 - s * y) by omega, show K * (128 - s * x) ≠ K * (128 - s * y) by omega]
  · subst h; simp [compare, compareOfLessAndEq]
  · have := l1.mpr h
    simp [compare, compareOfLessAndEq, h, this]
theorem g_mx (hK : 1 ≤ K) (hK' : K ≤ 16) (hs : 1 ≤ s) (hs' : s ≤ 4) (hx : 0 ≤ x) (hx' : x ≤ 32) (hy : 0 ≤ y) (hy' : y ≤ 32) : mx (gF K s x) (gF K s y) = gF K s (min x y) := by
  unfold mx
  rw [g_cmp hK hK' hs hs' hx hx' hy hy']
  rcases Int.lt_trichotomy x y with h | h | h
  · simp [compare, compareOfLessAndEq, show ¬ y < x by omega, show y ≠ x by omega, show min x y = x by omega]
  · subst h; simp [compare, compareOfLessAndEq]
  · simp [compare, compareOfLessAndEq, h, show min x y = y by omega]
theorem g_mn (hK : 1 ≤ K) (hK' : K ≤ 16) (hs : 1 ≤ s) (hs' : s ≤ 4) (hx : 0 ≤ x) (hx' : x ≤ 32) (hy : 0 ≤ y) (hy' : y ≤ 32) : mn (gF K s x) (gF K s y) = gF K s (max x y) := by
  unfold mn
  rw [g_cmp hK hK' hs hs' hy hy' hx hx']
  rcases Int.lt_trichotomy x y with h | h | h
  · simp [compare, compareOfLessAndEq, h, show max x y = y by omega]
  · subst h; simp [compare, compareOfLessAndEq]
  · simp [compare, compareOfLessAndEq, show ¬ x < y by omega, show x ≠ y by omega, show max x y = x by omega]
/-- the range of the three -/
theorem g_rangec (hK : 1 ≤ K) (hK' : K ≤ 16) (hs : 1 ≤ s) (hs' : s ≤ 4) (hx : 0 ≤ x) (hx' : x ≤ 32) : sub (gF K s 0) (gF K s x) = tdiv (K * s * x) (2048 : Nat) := by
  have r1 := g_range hK hK' hs hs' (show (0 : Int) ≤ 0 by decide) (by decide)
  have r2 := g_range hK hK' hs hs' hx hx'
  unfold gF
  rw [tdiv_sub (j := 11) rfl (by decide) (small ⟨r1.1, by omega⟩) (small ⟨r2.1, by omega⟩)]
  congr 1
  grind
theorem ksx (hK : 1 ≤ K) (hK' : K ≤ 16) (hs : 1 ≤ s) (hs' : s ≤ 4) (hx : 0 ≤ x) (hx' : x ≤ 32) : 0 ≤ K * s * x ∧ K * s * x ≤ 2048 := by
  have h1 : 0 ≤ K * s := Int.mul_nonneg (by omega) (by omega)
  have h2 : K * s ≤ 16 * 4 := Int.mul_le_mul hK' hs' (by omega) (by decide)
  refine ⟨Int.mul_nonneg h1 hx, ?_⟩
  have := Int.mul_le_mul h2 hx' hx (by decide)
  omega
theorem g_part (hK : 1 ≤ K) (hK' : K ≤ 16) (hs : 1 ≤ s) (hs' : s ≤ 4) (hx : 0 ≤ x) (hx' : x ≤ 32) : div (tdiv (K * s * x) (2048 : Nat)) (tdiv (K * s * 32) (2048 : Nat)) = tdiv x 32 := by
  have r1 := ksx hK hK' hs hs' hx hx'
  have r2 := ksx hK hK' hs hs' (show (0 : Int) ≤ 32 by decide) (by decide)
  have h0 : 0 < K * s * 32 := by
    have : 0 < K * s := Int.mul_pos (by omega) (by omega)
    omega
  rw [tdiv_div (j := 11) rfl (by decide) (small ⟨r1.1, by omega⟩) (small ⟨r2.1, by omega⟩) h0]
  exact tdiv_eq h0 (by decide) (by grind)
end

/-! the three falls of a place -/
noncomputable def hueN (a b c : Int) : Int := if a = 0 then c - b else if b = 0 then 64 + a - c else 128 + b - a
noncomputable def fallsOk (p : Int) : Bool :=
  let a := fall p 0; let b := fall p 64; let c := fall p 128
  decide (min (min a b) c = 0) && decide (max (max a b) c = 32) && (decide (hueN a b c = 3 * p) || decide (hueN a b c = 3 * (p - 64)))
set_option maxRecDepth 100000 in
theorem falls_all : (List.range 64).all (fun n => fallsOk n) = true := by decide +kernel
theorem falls_ok {p : Int} (h0 : 0 ≤ p) (h1 : p < 64) : min (min (fall p 0) (fall p 64)) (fall p 128) = 0 ∧ max (max (fall p 0) (fall p 64)) (fall p 128) = 32 ∧ (hueN (fall p 0) (fall p 64) (fall p 128) = 3 * p ∨ hueN (fall p 0) (fall p 64) (fall p 128) = 3 * (p - 64)) := by
  obtain ⟨n, rfl⟩ := Int.eq_ofNat_of_zero_le h0
  have h := List.all_eq_true.mp falls_all n (by rw [List.mem_range]; omega)
  unfold fallsOk at h
  simp only [Bool.and_eq_true, Bool.or_eq_true, decide_eq_true_eq] at h
  exact ⟨h.1.1, h.1.2, h.2⟩
set_option maxRecDepth 100000 in
theorem mod_one_all : (List.range 128).all (fun n => decide ((divmod (tdiv ((n : Int) - 64) 64) 4607182418800017408).snd = tdiv (((n : Int) - 64) % 64) 64)) = true := by decide +kernel
theorem mod_one {q : Int} (h0 : -64 ≤ q) (h1 : q < 64) : (divmod (tdiv q 64) 4607182418800017408).snd = tdiv (q % 64) 64 := by
  obtain ⟨n, hn⟩ := Int.eq_ofNat_of_zero_le (show 0 ≤ q + 64 by omega)
  have h := of_decide_eq_true (List.all_eq_true.mp mod_one_all n (by rw [List.mem_range]; omega))
  rw [show (n : Int) - 64 = q by omega] at h
  exact h
theorem two_is : (4611686018427387904 : UInt64) = tdiv 64 (32 : Nat) := by decide +kernel
theorem four_is : (4616189618054758400 : UInt64) = tdiv 128 (32 : Nat) := by decide +kernel
theorem six_is : (4618441417868443648 : UInt64) = tdiv 192 (32 : Nat) := by decide +kernel

theorem hue_of {a b c p : Int} (ha : 0 ≤ a ∧ a ≤ 32) (hb : 0 ≤ b ∧ b ≤ 32) (hc : 0 ≤ c ∧ c ≤ 32) (hp : 0 ≤ p) (hp' : p < 64) (hN : hueN a b c = 3 * p ∨ hueN a b c = 3 * (p - 64)) :
    (divmod (div (bif decide (a = 0) then sub (tdiv c 32) (tdiv b 32) else bif decide (b = 0) then sub (add 4611686018427387904 (tdiv a 32)) (tdiv c 32) else sub (add 4616189618054758400 (tdiv b 32)) (tdiv a 32)) 4618441417868443648) 4607182418800017408).snd = tdiv p 64 := by
  have h32 : (32 : Int) = ((32 : Nat) : Int) := rfl
  have e : (bif decide (a = 0) then sub (tdiv c 32) (tdiv b 32) else bif decide (b = 0) then sub (add 4611686018427387904 (tdiv a 32)) (tdiv c 32) else sub (add 4616189618054758400 (tdiv b 32)) (tdiv a 32)) = tdiv (hueN a b c) (32 : Nat) := by
    unfold hueN
    rw [two_is, four_is, h32]
    by_cases h1 : a = 0
    · rw [decide_eq_true h1, if_pos h1, cond_true, tdiv_sub (j := 5) rfl (by decide) (small (by omega)) (small (by omega))]
    · rw [decide_eq_false h1, if_neg h1, cond_false]
      by_cases h2 : b = 0
      · rw [decide_eq_true h2, if_pos h2, cond_true, tdiv_add (j := 5) rfl (by decide) (by decide) (small (by omega)), tdiv_sub (j := 5) rfl (by decide) (small (by omega)) (small (by omega))]
      · rw [decide_eq_false h2, if_neg h2, cond_false, tdiv_add (j := 5) rfl (by decide) (by decide) (small (by omega)), tdiv_sub (j := 5) rfl (by decide) (small (by omega)) (small (by omega))]
  rw [e, six_is]
  have hr : -65536 ≤ hueN a b c ∧ hueN a b c ≤ 65536 := by rcases hN with h | h <;> omega
  rw [tdiv_div (j := 5) rfl (by decide) (small' hr) (by decide) (by decide)]
  rcases hN with h | h
  · rw [h, tdiv_eq (c := p) (d := 64) (by decide) (by decide) (by omega), mod_one (by omega) (by omega), Int.emod_eq_of_lt hp hp']
  · rw [h, tdiv_eq (c := p - 64) (d := 64) (by decide) (by decide) (by omega), mod_one (by omega) (by omega)]
    congr 1
    omega

theorem hueF_col {p l s : Int} (h : SpotOk p l s) : hueF (gF (l + 1) s (fall p 0)) (gF (l + 1) s (fall p 64)) (gF (l + 1) s (fall p 128)) (gF (l + 1) s 0) (tdiv ((l + 1) * s * 32) (2048 : Nat)) = tdiv p 64 := by
  obtain ⟨p0, p1, l0, l1, s0, s1⟩ := h
  have K0 : 1 ≤ l + 1 := by omega
  have K1 : l + 1 ≤ 16 := by omega
  have ra := fall_range p 0
  have rb := fall_range p 64
  have rc := fall_range p 128
  obtain ⟨_, _, hN⟩ := falls_ok p0 p1
  generalize fall p 0 = a at *
  generalize fall p 64 = b at *
  generalize fall p 128 = c at *
  unfold hueF
  simp only
  rw [g_rangec K0 K1 s0 s1 ra.1 ra.2, g_rangec K0 K1 s0 s1 rb.1 rb.2, g_rangec K0 K1 s0 s1 rc.1 rc.2, g_part K0 K1 s0 s1 ra.1 ra.2, g_part K0 K1 s0 s1 rb.1 rb.2, g_part K0 K1 s0 s1 rc.1 rc.2]
  rw [g_cmp K0 K1 s0 s1 ra.1 ra.2 (by decide) (by decide), g_cmp K0 K1 s0 s1 rb.1 rb.2 (by decide) (by decide)]
  have hc0 : ∀ {x : Int}, 0 ≤ x → (some (compare 0 x) == some Ordering.eq) = decide (x = 0) := by
    intro x hx
    by_cases h : x = 0
    · subst h; decide
    · simp [compare, compareOfLessAndEq, show (0 : Int) < x by omega, h]
  rw [hc0 ra.1, hc0 rb.1]
  exact hue_of ra rb rc p0 p1 hN

theorem col_g (p s l c : Int) : col p s l c = gF (l + 1) s (fall p c) := rfl

theorem maxmin {p l s : Int} (h : SpotOk p l s) : mx (mx (col p s l 0) (col p s l 64)) (col p s l 128) = gF (l + 1) s 0 ∧ mn (mn (col p s l 0) (col p s l 64)) (col p s l 128) = gF (l + 1) s 32 := by
  obtain ⟨p0, p1, l0, l1, s0, s1⟩ := h
  have K0 : 1 ≤ l + 1 := by omega
  have K1 : l + 1 ≤ 16 := by omega
  have ra := fall_range p 0
  have rb := fall_range p 64
  have rc := fall_range p 128
  obtain ⟨hm, hM, _⟩ := falls_ok p0 p1
  simp only [col_g]
  rw [g_mx K0 K1 s0 s1 ra.1 ra.2 rb.1 rb.2, g_mx K0 K1 s0 s1 (by omega) (by omega) rc.1 rc.2, hm, g_mn K0 K1 s0 s1 ra.1 ra.2 rb.1 rb.2, g_mn K0 K1 s0 s1 (by omega) (by omega) rc.1 rc.2, hM]
  exact ⟨rfl, rfl⟩

theorem hsv_col {p l s : Int} (h : SpotOk p l s) : hsvF (col p s l 0) (col p s l 64) (col p s l 128) = some (tdiv p 64, tdiv s 4, tdiv (l + 1) 16) := by
  obtain ⟨hM, hm⟩ := maxmin h
  have hh := hueF_col h
  unfold hsvF
  rw [hM, hm]
  obtain ⟨p0, p1, l0, l1, s0, s1⟩ := h
  have K0 : 1 ≤ l + 1 := by omega
  have K1 : l + 1 ≤ 16 := by omega
  have r0 := ksx K0 K1 s0 s1 (show (0 : Int) ≤ 32 by decide) (by decide)
  have hpos : 0 < (l + 1) * s * 32 := by
    have : 0 < (l + 1) * s := Int.mul_pos (by omega) (by omega)
    omega
  have hg0 : gF (l + 1) s 0 = tdiv ((l + 1) * 128) (2048 : Nat) := by unfold gF; congr 1; omega
  rw [g_rangec K0 K1 s0 s1 (by decide) (by decide), g_cmp K0 K1 s0 s1 (by decide) (by decide) (by decide) (by decide), col_g, col_g, col_g, hh]
  rw [show (some (compare (0 : Int) 32) == some Ordering.eq) = false from by decide, cond_false]
  rw [hg0, tdiv_isZero (j := 11) rfl (by decide) (small ⟨by omega, by omega⟩), decide_eq_false (show ¬ (l + 1) * 128 = 0 by omega), cond_false]
  rw [tdiv_isZero (j := 11) rfl (by decide) (small ⟨by omega, by omega⟩), decide_eq_false (by omega), cond_false]
  rw [tdiv_div (j := 11) rfl (by decide) (small ⟨by omega, by omega⟩) (small ⟨by omega, by omega⟩) (by omega)]
  rw [tdiv_eq (a := (l + 1) * s * 32) (b := (l + 1) * 128) (c := s) (d := 4) (by omega) (by decide) (by grind), tdiv_eq (a := (l + 1) * 128) (b := ((2048 : Nat) : Int)) (c := l + 1) (d := 16) (by decide) (by decide) (by omega)]

theorem two_is' : (4611686018427387904 : UInt64) = tdiv 4096 (2048 : Nat) := by decide +kernel
theorem hls_col {p l s : Int} (h : SpotOk p l s) : ∃ x, hlsF (col p s l 0) (col p s l 64) (col p s l 128) = some (tdiv p 64, tdiv ((l + 1) * (8 - s)) 128, x) := by
  obtain ⟨hM, hm⟩ := maxmin h
  have hh := hueF_col h
  unfold hlsF
  rw [hM, hm]
  obtain ⟨p0, p1, l0, l1, s0, s1⟩ := h
  have K0 : 1 ≤ l + 1 := by omega
  have K1 : l + 1 ≤ 16 := by omega
  have r0 := ksx K0 K1 s0 s1 (show (0 : Int) ≤ 32 by decide) (by decide)
  have r1 := g_range K0 K1 s0 s1 (show (0 : Int) ≤ 0 by decide) (by decide)
  have r2 := g_range K0 K1 s0 s1 (show (0 : Int) ≤ 32 by decide) (by decide)
  have hpos : 0 < (l + 1) * s * 32 := by
    have : 0 < (l + 1) * s := Int.mul_pos (by omega) (by omega)
    omega
  have hX : (l + 1) * (128 - s * 0) + (l + 1) * (128 - s * 32) = (l + 1) * (256 - 32 * s) := by grind
  have hX1 : 0 < (l + 1) * (256 - 32 * s) := Int.mul_pos (by omega) (by omega)
  have hX2 : (l + 1) * (256 - 32 * s) ≤ 16 * 224 := Int.mul_le_mul K1 (by omega) (by omega) (by decide)
  have hadd : add (gF (l + 1) s 0) (gF (l + 1) s 32) = tdiv ((l + 1) * (256 - 32 * s)) (2048 : Nat) := by
    unfold gF
    rw [tdiv_add (j := 11) rfl (by decide) (small ⟨r1.1, by omega⟩) (small ⟨r2.1, by omega⟩), hX]
  have hsub : sub (sub 4611686018427387904 (gF (l + 1) s 0)) (gF (l + 1) s 32) = tdiv (4096 - (l + 1) * (256 - 32 * s)) (2048 : Nat) := by
    unfold gF
    rw [two_is', tdiv_sub (j := 11) rfl (by decide) (by decide) (small ⟨r1.1, by omega⟩), tdiv_sub (j := 11) rfl (by decide) (small' ⟨by omega, by omega⟩) (small ⟨r2.1, by omega⟩)]
    congr 1
    omega
  have hl : div (tdiv ((l + 1) * (256 - 32 * s)) (2048 : Nat)) 4611686018427387904 = tdiv ((l + 1) * (8 - s)) 128 := by
    rw [two_is', tdiv_div (j := 11) rfl (by decide) (small ⟨by omega, by omega⟩) (by decide) (by decide)]
    exact tdiv_eq (by decide) (by decide) (by grind)
  rw [g_rangec K0 K1 s0 s1 (by decide) (by decide), g_cmp K0 K1 s0 s1 (by decide) (by decide) (by decide) (by decide), col_g, col_g, col_g, hh, hadd, hsub, hl]
  rw [show (some (compare (0 : Int) 32) == some Ordering.eq) = false from by decide, cond_false]
  simp only
  rw [tdiv_isZero (a := (l + 1) * s * 32) (j := 11) rfl (by decide) (small ⟨by omega, by omega⟩), decide_eq_false (show ¬ (l + 1) * s * 32 = 0 by omega)]
  generalize (cmp (tdiv ((l + 1) * (8 - s)) 128) 4602678819172646912 == some Ordering.lt || cmp (tdiv ((l + 1) * (8 - s)) 128) 4602678819172646912 == some Ordering.eq) = b
  cases b
  · rw [cond_false, tdiv_isZero (j := 11) rfl (by decide) (small ⟨by omega, by omega⟩), decide_eq_false (by omega), cond_false, cond_false]
    exact ⟨_, rfl⟩
  · rw [cond_true, tdiv_isZero (j := 11) rfl (by decide) (small ⟨by omega, by omega⟩), decide_eq_false (by omega), cond_false, cond_false]
    exact ⟨_, rfl⟩
end Mine
open PySem PySem.W PyProof.Rows
set_option Elab.async false
namespace Mine
open PySem.Float64
theorem ofInt_tdiv (i : Int) : ofInt i = tdiv i ((1 : Nat) : Int) := by
  rw [tdiv_pos (by decide)]
  unfold ofInt
  rfl
theorem toInt_tdiv {a : Int} {d j : Nat} (hd : d = 2 ^ j) (hj : j ≤ 1000) (ha : a.natAbs < 2 ^ 53) (h0 : 0 ≤ a) : Flt.toInt truncOf (tdiv a d) = a / d := by
  have hp : 0 < d := by rw [hd]; exact Nat.two_pow_pos j
  obtain ⟨m, e, hx, vx⟩ := texact (a := a) hd hj ha
  have he := decode_ge hx
  have h1 := congrArg Int.natAbs vx
  rw [Int.natAbs_mul, Int.natAbs_mul, Int.natAbs_natCast, val_natAbs hx, K_abs rfl] at h1
  obtain ⟨n, rfl⟩ := Int.eq_ofNat_of_zero_le h0
  rw [Int.natAbs_natCast] at h1
  unfold Flt.toInt
  rw [hx]
  rw [decide_eq_false (show ¬ ((n : Int) < 0) by omega)]
  unfold truncOf floorOf sgn
  simp only [Bool.false_eq_true, if_false]
  by_cases hpos : 0 ≤ e
  · rw [if_pos hpos]
    have e1 : (e + 1074).toNat = e.toNat + 1074 := by omega
    rw [e1, Nat.pow_add] at h1
    have h2 : m * 2 ^ e.toNat * d = n := by
      have hK : 0 < (2 : Nat) ^ 1074 := Nat.two_pow_pos _
      generalize (2 : Nat) ^ 1074 = K at *
      refine Nat.eq_of_mul_eq_mul_right hK ?_
      rw [← h1]
      ac_rfl
    rw [← h2]
    rw [Int.natCast_mul, Int.mul_ediv_cancel _ (by omega), Int.natCast_mul]
    simp
  · rw [if_neg hpos]
    have e1 : 1074 = (e + 1074).toNat + (-e).toNat := by omega
    have h2 : m * d = n * 2 ^ (-e).toNat := by
      have h3 : m * 2 ^ (e + 1074).toNat * d = n * 2 ^ ((e + 1074).toNat + (-e).toNat) := by rw [← e1]; exact h1
      rw [Nat.pow_add] at h3
      have hE : 0 < (2 : Nat) ^ (e + 1074).toNat := Nat.two_pow_pos _
      generalize (2 : Nat) ^ (e + 1074).toNat = X at *
      refine Nat.eq_of_mul_eq_mul_right hE ?_
      calc m * d * X = m * X * d := by ac_rfl
        _ = _ := h3
        _ = _ := by ac_rfl
    have hF : 0 < 2 ^ (-e).toNat := Nat.two_pow_pos _
    have h4 : m / 2 ^ (-e).toNat = n / d := by
      rw [← Nat.mul_div_mul_right m (2 ^ (-e).toNat) hp, h2, Nat.mul_comm (2 ^ (-e).toNat) d, Nat.mul_div_mul_right _ _ hF]
    rw [show ((2 : Int) ^ (-e).toNat) = ((2 ^ (-e).toNat : Nat) : Int) by simp]
    rw [Int.fdiv_eq_ediv_of_nonneg _ (by omega), ← Int.natCast_ediv, h4, Int.natCast_ediv]

theorem one_4 : (4607182418800017408 : UInt64) = tdiv 4 (4 : Nat) := by decide +kernel
theorem one_64 : (4607182418800017408 : UInt64) = tdiv 64 (64 : Nat) := by decide +kernel
theorem one_256 : (4607182418800017408 : UInt64) = tdiv 256 (256 : Nat) := by decide +kernel
theorem six_1 : (4618441417868443648 : UInt64) = tdiv 6 (1 : Nat) := by decide +kernel

/-- the sixth parts of a turn and what is over -/
noncomputable def paintOk (N : Int) : Bool :=
  let i := (N * 6) / 64
  let F := N * 6 - 64 * i
  let x := F / 2
  let y := (64 - F) / 2
  let p := N % 64
  decide (F = 2 * x) && decide (64 - F = 2 * y) && decide (0 ≤ i) && decide (i < 12) &&
  decide ((if i.fmod 6 = 0 then ((0 : Int), y, (32 : Int)) else if i.fmod 6 = 1 then (x, 0, 32) else if i.fmod 6 = 2 then (32, 0, y) else if i.fmod 6 = 3 then (32, x, 0) else if i.fmod 6 = 4 then (y, 32, 0) else (0, 32, x)) = (fall p 0, fall p 64, fall p 128))
set_option maxRecDepth 100000 in
theorem paint_all : (List.range 128).all (fun n => paintOk n) = true := by decide +kernel

theorem six_of {N : Int} (h0 : 0 ≤ N) (h1 : N < 128) : mul (tdiv N 64) 4618441417868443648 = tdiv (N * 6) (64 : Nat) := by
  rw [six_1, show (64 : Int) = ((64 : Nat) : Int) from rfl, tdiv_mul (i := 6) (j := 0) rfl (by decide) rfl (by decide) (small (by omega)) (by decide) h0 (by decide)]

theorem paint {N l s : Int} (h0 : 0 ≤ N) (h1 : N < 128) (l0 : 0 ≤ l) (l1 : l < 16) (s0 : 1 ≤ s) (s1 : s ≤ 4) :
    rgbX (tdiv N 64) (tdiv s 4) (tdiv (l + 1) 16) ((N * 6) / 64) = (col (N % 64) s l 0, col (N % 64) s l 64, col (N % 64) s l 128) := by
  obtain ⟨n, hn⟩ := Int.eq_ofNat_of_zero_le h0
  have hp := List.all_eq_true.mp paint_all n (by rw [List.mem_range]; omega)
  rw [← hn] at hp
  unfold paintOk at hp
  simp only [Bool.and_eq_true, decide_eq_true_eq] at hp
  obtain ⟨⟨⟨⟨hx, hy⟩, hi0⟩, hi1⟩, ht⟩ := hp
  have K0 : 1 ≤ l + 1 := by omega
  have K1 : l + 1 ≤ 16 := by omega
  have hf : sub (mul (tdiv N 64) 4618441417868443648) (ofInt ((N * 6) / 64)) = tdiv (N * 6 - 64 * ((N * 6) / 64)) (64 : Nat) := by
    rw [six_of h0 h1, ofInt_tdiv, tdiv_eq (a := N * 6 / 64) (c := 64 * (N * 6 / 64)) (d := ((64 : Nat) : Int)) (by decide) (by decide) (by omega)]
    exact tdiv_sub (j := 6) rfl (by decide) (small (by omega)) (small (by omega))
  have hF0 : 0 ≤ N * 6 - 64 * ((N * 6) / 64) := by omega
  have hF1 : N * 6 - 64 * ((N * 6) / 64) < 64 := by omega
  unfold rgbX
  simp only
  rw [hf]
  generalize N * 6 - 64 * ((N * 6) / 64) = F at *
  generalize N * 6 / 64 = i at *
  simp only [col_g]
  have e4 : (4 : Int) = ((4 : Nat) : Int) := rfl
  have e16 : (16 : Int) = ((16 : Nat) : Int) := rfl
  have hv : tdiv (l + 1) 16 = gF (l + 1) s 0 := by
    unfold gF
    exact tdiv_eq (by decide) (by decide) (by grind)
  have hP : mul (tdiv (l + 1) 16) (sub 4607182418800017408 (tdiv s 4)) = gF (l + 1) s 32 := by
    rw [one_4, e4, tdiv_sub (j := 2) rfl (by decide) (by decide) (small (by omega)), e16, tdiv_mul (i := 4) (j := 2) rfl (by decide) rfl (by decide) (small (by omega)) (small (by omega)) (by omega) (by omega)]
    unfold gF
    exact tdiv_eq (by decide) (by decide) (by grind)
  have hq : ∀ {G z : Int}, 0 ≤ G → G ≤ 64 → G = 2 * z → mul (tdiv (l + 1) 16) (sub 4607182418800017408 (mul (tdiv s 4) (tdiv G (64 : Nat)))) = gF (l + 1) s z := by
    intro G z g0 g1 hz
    have sG : 0 ≤ s * G ∧ s * G ≤ 256 := by
      refine ⟨Int.mul_nonneg (by omega) g0, ?_⟩
      have := Int.mul_le_mul s1 g1 g0 (by decide)
      omega
    rw [e4, tdiv_mul (i := 2) (j := 6) rfl (by decide) rfl (by decide) (small (by omega)) (small (by omega)) (by omega) g0]
    rw [one_256, show ((4 * 64 : Nat) : Int) = ((256 : Nat) : Int) from rfl, tdiv_sub (j := 8) rfl (by decide) (by decide) (small (by omega)), e16, tdiv_mul (i := 4) (j := 8) rfl (by decide) rfl (by decide) (small (by omega)) (small (by omega)) (by omega) (by omega)]
    unfold gF
    refine tdiv_eq (by decide) (by decide) ?_
    subst hz
    show (l + 1) * (256 - s * (2 * z)) * 2048 = (l + 1) * (128 - s * z) * 4096
    grind
  have hQ := hq hF0 (by omega) hx
  have hT : mul (tdiv (l + 1) 16) (sub 4607182418800017408 (mul (tdiv s 4) (sub 4607182418800017408 (tdiv F (64 : Nat))))) = gF (l + 1) s ((64 - F) / 2) := by
    rw [show sub 4607182418800017408 (tdiv F (64 : Nat)) = tdiv (64 - F) (64 : Nat) from by
      rw [one_64]
      exact tdiv_sub (j := 6) rfl (by decide) (by decide) (small (by omega))]
    exact hq (by omega) (by omega) hy
  rw [hP, hQ, hT, hv]
  generalize (64 - F) / 2 = y at *
  generalize F / 2 = x at *
  have e1 := congrArg (fun q : Int × Int × Int => q.1) ht
  have e2 := congrArg (fun q : Int × Int × Int => q.2.1) ht
  have e3 := congrArg (fun q : Int × Int × Int => q.2.2) ht
  simp only at e1 e2 e3
  rw [← e1, ← e2, ← e3]
  repeat' split
  all_goals rfl
end Mine
open PySem PySem.W PyProof.Rows
set_option Elab.async false
namespace Mine
structure Spot where
  p : Int
  l : Int
  s : Int
  k : Bool
noncomputable def spT (n : Int) : List Spot := if n.fmod 4 = 0 then [] else if n.fmod 4 = 1 then [] else [⟨(restOf n).fmod 64, ((restOf n).fdiv 64).fmod 16, ((restOf n).fdiv 1024).fmod 4 + 1, decide ((restOf n).fdiv 4096 < 3)⟩]
noncomputable def spotsOf (pre : List Int) : List Spot := pre.flatMap spT
noncomputable def Spot.dat (q : Spot) : Dat := .tuple [.int q.p, .int q.l, .int q.s, .bool q.k]
noncomputable def Spot.Ok (q : Spot) : Prop := SpotOk q.p q.l q.s
theorem spoD_eq (n : Int) : spoD n = (spT n).map Spot.dat := by
  unfold spoD spT
  (repeat' split) <;> rfl
theorem spoL_eq (pre : List Int) : spoL pre = (spotsOf pre).map Spot.dat := by
  unfold spoL spotsOf
  rw [List.map_flatMap]
  congr 1
  funext n
  exact spoD_eq n
theorem spT_ok (n : Int) : ∀ q ∈ spT n, q.Ok := by
  intro q hq
  unfold spT at hq
  split at hq
  · cases hq
  · split at hq
    · cases hq
    · rw [List.mem_singleton.mp hq]
      have h1 := Int.fmod_nonneg_of_pos (restOf n) (show (0 : Int) < 64 by decide)
      have h2 := Int.fmod_lt_of_pos (restOf n) (show (0 : Int) < 64 by decide)
      have h3 := Int.fmod_nonneg_of_pos ((restOf n).fdiv 64) (show (0 : Int) < 16 by decide)
      have h4 := Int.fmod_lt_of_pos ((restOf n).fdiv 64) (show (0 : Int) < 16 by decide)
      have h5 := Int.fmod_nonneg_of_pos ((restOf n).fdiv 1024) (show (0 : Int) < 4 by decide)
      have h6 := Int.fmod_lt_of_pos ((restOf n).fdiv 1024) (show (0 : Int) < 4 by decide)
      exact ⟨h1, h2, h3, h4, by show 1 ≤ ((restOf n).fdiv 1024).fmod 4 + 1; omega, by show ((restOf n).fdiv 1024).fmod 4 + 1 ≤ 4; omega⟩
theorem spots_ok (pre : List Int) : ∀ q ∈ spotsOf pre, q.Ok := by
  intro q hq
  obtain ⟨n, _, h⟩ := List.mem_flatMap.mp hq
  exact spT_ok n q h
theorem spot_val {tT : List (Addr × Obj)} {v : Value} {q : Spot} (h : DatIn tT v q.dat) : ∃ a t1 t2 t3 n, v = .ref a ∧ (a, tupObj [.int q.p t1, .int q.l t2, .int q.s t3, .bool q.k] n) ∈ tT := by
  unfold Spot.dat at h
  cases h with
  | tuple hm hd =>
    cases hd with
    | cons h1 hd =>
      cases hd with
      | cons h2 hd =>
        cases hd with
        | cons h3 hd =>
          cases hd with
          | cons h4 hd =>
            cases hd
            cases h1; cases h2; cases h3; cases h4
            exact ⟨_, _, _, _, _, rfl, hm⟩
theorem spot_at {tT : List (Addr × Obj)} {us : List Value} {qs : List Spot} (h : DatAll tT us (qs.map Spot.dat)) {i : Nat} {v : Value} (hv : us[i]? = some v) : ∃ q, qs[i]? = some q ∧ ∃ a t1 t2 t3 n, v = .ref a ∧ (a, tupObj [.int q.p t1, .int q.l t2, .int q.s t3, .bool q.k] n) ∈ tT := by
  have hl := h.length
  rw [List.length_map] at hl
  have hi : i < qs.length := by
    rw [← hl]
    exact (List.getElem?_eq_some_iff.mp hv).1
  obtain ⟨v', hv', hd⟩ := h.get (k := i) (by rw [List.length_map]; exact hi)
  rw [hv] at hv'
  obtain rfl := Option.some.inj hv'
  rw [List.getElem_map] at hd
  exact ⟨qs[i], List.getElem?_eq_getElem hi, spot_val hd⟩
theorem spots_ref {tT : List (Addr × Obj)} {us : List Value} {qs : List Spot} (h : DatAll tT us (qs.map Spot.dat)) : ∀ v ∈ us, ∃ a, v = .ref a := by
  intro v hv
  obtain ⟨i, hi⟩ := List.mem_iff_getElem?.mp hv
  obtain ⟨_, _, a, _, _, _, _, e, _⟩ := spot_at h hi
  exact ⟨a, e⟩
inductive OptsAre : List Value → List (Option Str) → Prop
  | nil : OptsAre [] []
  | some (y : Str) (t : Tok) {vs ys} : OptsAre vs ys → OptsAre (.str y t :: vs) (Option.some y :: ys)
  | none {vs ys} : OptsAre vs ys → OptsAre (.none :: vs) (Option.none :: ys)
noncomputable def moveP (mi : Bool) (tn p : Int) : Int := ((if mi then -p else p) + tn).fmod 64
noncomputable def moveL (fl : Bool) (l : Int) : Int := if fl then 15 - l else l
end Mine
open PySem PySem.W PyProof.Rows
set_option Elab.async false
namespace Mine
noncomputable def findDef (n : Str) : List Stmt → Option (List Stmt × Scope)
  | [] => none
  | .FunctionDef _ _ body _ _ _ scope _ bind _ :: r => if bind = n then some (body, scope) else findDef n r
  | _ :: r => findDef n r
theorem know_pt {m : Str → Option Value} {x : Str} {v : Value} (e : m x = some v) (y : Str) : (if y = x then some v else m y) = m y := by
  by_cases h : y = x
  · subst h; rw [if_pos rfl, e]
  · rw [if_neg h]
theorem fr_know1 {h₀ h : Heap} {L : Addr} {m : Str → Option Value} {x1 : Str} {v1 : Value} (F : Fr h₀ L h m) (e1 : m x1 = some v1) : Fr h₀ L h (fun y => if y = x1 then some v1 else m y) := by
  simp only [know_pt e1]; exact F
theorem fr_know2 {h₀ h : Heap} {L : Addr} {m : Str → Option Value} {x1 x2 : Str} {v1 v2 : Value} (F : Fr h₀ L h m) (e1 : m x1 = some v1) (e2 : m x2 = some v2) : Fr h₀ L h (fun y => if y = x1 then some v1 else if y = x2 then some v2 else m y) := by
  simp only [know_pt e2, know_pt e1]; exact F
theorem fr_know3 {h₀ h : Heap} {L : Addr} {m : Str → Option Value} {x1 x2 x3 : Str} {v1 v2 v3 : Value} (F : Fr h₀ L h m) (e1 : m x1 = some v1) (e2 : m x2 = some v2) (e3 : m x3 = some v3) : Fr h₀ L h (fun y => if y = x1 then some v1 else if y = x2 then some v2 else if y = x3 then some v3 else m y) := by
  simp only [know_pt e3, know_pt e2, know_pt e1]; exact F
theorem fr_know4 {h₀ h : Heap} {L : Addr} {m : Str → Option Value} {x1 x2 x3 x4 : Str} {v1 v2 v3 v4 : Value} (F : Fr h₀ L h m) (e1 : m x1 = some v1) (e2 : m x2 = some v2) (e3 : m x3 = some v3) (e4 : m x4 = some v4) : Fr h₀ L h (fun y => if y = x1 then some v1 else if y = x2 then some v2 else if y = x3 then some v3 else if y = x4 then some v4 else m y) := by
  simp only [know_pt e4, know_pt e3, know_pt e2, know_pt e1]; exact F
theorem fr_know5 {h₀ h : Heap} {L : Addr} {m : Str → Option Value} {x1 x2 x3 x4 x5 : Str} {v1 v2 v3 v4 v5 : Value} (F : Fr h₀ L h m) (e1 : m x1 = some v1) (e2 : m x2 = some v2) (e3 : m x3 = some v3) (e4 : m x4 = some v4) (e5 : m x5 = some v5) : Fr h₀ L h (fun y => if y = x1 then some v1 else if y = x2 then some v2 else if y = x3 then some v3 else if y = x4 then some v4 else if y = x5 then some v5 else m y) := by
  simp only [know_pt e5, know_pt e4, know_pt e3, know_pt e2, know_pt e1]; exact F
theorem fr_know6 {h₀ h : Heap} {L : Addr} {m : Str → Option Value} {x1 x2 x3 x4 x5 x6 : Str} {v1 v2 v3 v4 v5 v6 : Value} (F : Fr h₀ L h m) (e1 : m x1 = some v1) (e2 : m x2 = some v2) (e3 : m x3 = some v3) (e4 : m x4 = some v4) (e5 : m x5 = some v5) (e6 : m x6 = some v6) : Fr h₀ L h (fun y => if y = x1 then some v1 else if y = x2 then some v2 else if y = x3 then some v3 else if y = x4 then some v4 else if y = x5 then some v5 else if y = x6 then some v6 else m y) := by
  simp only [know_pt e6, know_pt e5, know_pt e4, know_pt e3, know_pt e2, know_pt e1]; exact F
theorem news_sub {h₀ h : Heap} {L : Addr} {n n' : List (Addr × Obj)} (N : News h₀ L h n) (hs : ∀ p ∈ n', p ∈ n) : News h₀ L h n' := fun p hp => N p (hs p hp)
end Mine
open PySem PySem.W PyProof.Rows
set_option Elab.async false
namespace Mine
theorem w_clear_Ck : True := by
  w_top off
  k_with_none
  k_with "callWith" => (k_here; (with_reducible show wpAny _ _ (callWith _ (Value.builtin _) (_ :: _) (backTo _ (starEach (_ :: _) _)) []) _ _ _); (with_reducible refine' PyProof.Rows.callWith_method1 ?_ ?he ?hp); (case he => k_dflt rfl); (case hp => k_dflt rfl))
  k_with "callWith" => (k_here; (with_reducible show wpAny _ _ (callWith _ (Value.builtin _) [] (backTo _ (starEach (_ :: _) _)) []) _ _ _); (with_reducible refine' PyProof.Rows.callWith_builtin1 ?_ ?he ?hp); (case he => k_dflt rfl); (case hp => k_dflt rfl))
  trivial
/-! the turn of _law_colour's loop, statement by statement -/
noncomputable def colDef : Option (List Stmt × Scope) := findDef (Str.ofString "_law_colour") PySem.Challenge.pw_pg0115_01.main.body
noncomputable def colScope : Option Scope := match colDef with | some (_, sc) => some sc | none => none
noncomputable def colTurn (i : Nat) : Option Stmt := (colDef.bind fun d => d.1[1]?).bind fun t => match t with | .For _ _ body _ _ => body[i]? | _ => none
noncomputable abbrev colName : Str := Str.ofString "_law_colour"
theorem w_words_Ck_1 : True := by
  k_with "call builtin:list.append" => (k_here; k_dflt (refine' append_in (own := []) ?kF ?kN ?ko ?kr ?_ ?ks; (case kF => k_asm); (case kN => k_asm); (case ko => exact fun _ h => nomatch h); (case kr => assumption); (case ks => (rw [sizeLine_eq]; omega)); k_whole; intro h9 F9 N9; (simp only [List.nil_append] at N9)))
  trivial
section
variable {w : World} {mean : ExcName → Option Value} {mg mb : Str → Option Value} {h₀ base : Heap} {L fa L0 a0 : Addr} {cd ccd0 : Value} {A₀ : Around} {outer outer0 : List Env} {dp un : Nat} {gd : Option (List Code)} {cn0 : Str} {cs0 : Scope} {cl0 : List (Str × Addr)} {m : Str → Option Value} {news : List (Addr × Obj)} {s : Shared} {Q : Flow → Shared → Prop} {E : Value → Shared → Prop} {st : Stmt} {sc : Scope}
set_option maxRecDepth 100000 in
set_option maxHeartbeats 8000000 in
theorem col_way (hst : colTurn 0 = some st) (hsc : colScope = some sc) (hd : dp + 1 < recursionLimit) (hu : un + 8 * 1 < cLine) (X : (Mine.hd.heap_1 w.params).In h₀) (T : Top Mine.hd.view_1 (looseW Mine.hd.view_1 []) mean mg mb h₀) (F : Fr h₀ L s.heap m) (N : News h₀ L s.heap news) {p c : Int} {t1 t2 : Tok} (h1 : m (Str.ofString "place") = some (.int p t1)) (h2 : m (Str.ofString "corner") = some (.int c t2))
    (ret : ∀ h' tk' t', Fr h₀ L h' (fun y => if y = (Str.ofString "way") then some (.int ((3 * p - c).fmod 192) t') else m y) → News h₀ L h' news → Q .next { s with heap := h', toks := tk' }) :
    wpAny (model PySem.Challenge.rw_pg0115_01.row.prog w) ((ktrTop dp un gd cn0 cs0 L0 a0 ccd0 cl0 outer0).deeper (envOf colName sc L fa cd)) (exec st (envOf colName sc L fa cd)) Q E s := by
  revert X
  k_fill
  intro X
  cases hst
  cases hsc
  (try dsimp only)
  have F := fr_know2 F h1 h2
  k_steps
  (rename Fr _ _ _ _ => kF); (rename News _ _ _ _ => kN); (try dsimp only)
  exact ret _ _ _ (by (try simp only [know_pt h1, know_pt h2] at kF); exact kF) kN
set_option maxRecDepth 100000 in
set_option maxHeartbeats 8000000 in
theorem col_fall (hst : colTurn 1 = some st) (hsc : colScope = some sc) (hd : dp + 1 < recursionLimit) (hu : un + 8 * 1 < cLine) (X : (Mine.hd.heap_1 w.params).In h₀) (T : Top Mine.hd.view_1 (looseW Mine.hd.view_1 []) mean mg mb h₀) (F : Fr h₀ L s.heap m) (N : News h₀ L s.heap news) {x : Int} {t1 : Tok} (h1 : m (Str.ofString "way") = some (.int x t1))
    (ret : ∀ h' tk' t', Fr h₀ L h' (fun y => if y = (Str.ofString "fall") then some (.int (mn2 (mx2 (mn2 x (192 - x) - 32) 0) 32) t') else m y) → News h₀ L h' news → Q .next { s with heap := h', toks := tk' }) :
    wpAny (model PySem.Challenge.rw_pg0115_01.row.prog w) ((ktrTop dp un gd cn0 cs0 L0 a0 ccd0 cl0 outer0).deeper (envOf colName sc L fa cd)) (exec st (envOf colName sc L fa cd)) Q E s := by
  revert X
  k_fill
  intro X
  cases hst
  cases hsc
  (try dsimp only)
  have F := fr_know1 F h1
  k_steps
  (rename Fr _ _ _ _ => kF); (rename News _ _ _ _ => kN); (try dsimp only)
  exact ret _ _ _ (by (try simp only [know_pt h1] at kF); exact kF) kN
set_option maxRecDepth 100000 in
set_option maxHeartbeats 8000000 in
theorem col_app (hst : colTurn 2 = some st) (hsc : colScope = some sc) (hd : dp + 1 < recursionLimit) (hu : un + 8 * 1 < cLine) (X : (Mine.hd.heap_1 w.params).In h₀) (T : Top Mine.hd.view_1 (looseW Mine.hd.view_1 []) mean mg mb h₀) (F : Fr h₀ L s.heap m) (N : News h₀ L s.heap news) {q l f : Int} (q0 : 1 ≤ q) (q1 : q ≤ 4) (l0 : 0 ≤ l) (l1 : l < 16) (f0 : 0 ≤ f) (f1 : f ≤ 32) {t1 t2 t3 : Tok} {R : Addr} {ys : List Value} {k : Nat} {rest : List (Addr × Obj)} (h1 : m (Str.ofString "share") = some (.int q t1)) (h2 : m (Str.ofString "level") = some (.int l t2)) (h3 : m (Str.ofString "fall") = some (.int f t3)) (h4 : m (Str.ofString "row") = some (.ref R))
    (hn : news = (R, W.listOf ys.toArray k) :: rest) (hne : ∀ q ∈ rest, q.1 ≠ R) (hl : ys.length ≤ 15) (y0 : ¬ Float64.isInf (tdiv ((l + 1) * (128 - q * f)) 2048) = true)
    (ret : ∀ h' tk' (t' : Nat) e', t' ≠ 0 → Fr h₀ L h' m → News h₀ L h' ((R, W.listOf (ys ++ [Value.float (tdiv ((l + 1) * (128 - q * f)) 2048) t']).toArray e') :: rest) → Q .next { s with heap := h', toks := tk' }) :
    wpAny (model PySem.Challenge.rw_pg0115_01.row.prog w) ((ktrTop dp un gd cn0 cs0 L0 a0 ccd0 cl0 outer0).deeper (envOf colName sc L fa cd)) (exec st (envOf colName sc L fa cd)) Q E s := by
  subst hn
  unfold tdiv at y0
  revert X
  k_fill
  intro X
  cases hst
  cases hsc
  (try dsimp only)
  have F := fr_know4 F h1 h2 h3 h4
  k_steps
  all_goals (try (exfalso; exact absurd (by assumption) y0))
  (rename Fr _ _ _ _ => kF); (rename News _ _ _ _ => kN); (try dsimp only)
  refine ret _ _ _ _ ?_ (by (try simp only [know_pt h1, know_pt h2, know_pt h3, know_pt h4] at kF); exact kF) kN
  (try dsimp only)
  exact Nat.succ_ne_zero _
end
end Mine
open PySem PySem.W PyProof.Rows
set_option Elab.async false
namespace Mine
theorem w_clear_C5 : True := by
  w_top off
  k_with_none
  k_with "callWith" => (k_here; (with_reducible show wpAny _ _ (callWith _ (Value.builtin _) (_ :: _) (backTo _ (starEach (_ :: _) _)) []) _ _ _); (with_reducible refine' PyProof.Rows.callWith_method1 ?_ ?he ?hp); (case he => k_dflt rfl); (case hp => k_dflt rfl))
  k_with "callWith" => (k_here; (with_reducible show wpAny _ _ (callWith _ (Value.builtin _) [] (backTo _ (starEach (_ :: _) _)) []) _ _ _); (with_reducible refine' PyProof.Rows.callWith_builtin1 ?_ ?he ?hp); (case he => k_dflt rfl); (case hp => k_dflt rfl))
  trivial
theorem w_words_C5_1 : True := by
  k_with "execs cons" => (k_here; k_dflt (refine' execs_tok ?hn ?_; (case hn => ((try dsimp only); omega)); k_whole))
  k_with "TokNext" => (intro tk9 hk9; (try dsimp only))
  k_with "exec Assign" => (k_here; k_dflt (refine' col_way rfl rfl ?hd ?hu ?hX ?hT ?hF ?hN ?h1 ?h2 ?_; (case hd => omega); (case hu => omega); (case hX => k_asm); (case hT => k_asm); (case hF => k_asm); (case hN => k_asm); (case h1 => exact rfl); (case h2 => exact rfl); k_whole; intro h9 tk9 t9 F9 N9; (try dsimp only)))
  k_with "exec Assign" => (k_here; k_dflt (refine' col_fall rfl rfl ?hd ?hu ?hX ?hT ?hF ?hN ?h1 ?_; (case hd => omega); (case hu => omega); (case hX => k_asm); (case hT => k_asm); (case hF => k_asm); (case hN => k_asm); (case h1 => exact rfl); k_whole; intro h9 tk9 t9 F9 N9; (try dsimp only)))
  k_with "exec Expr" => (k_here; (rename Fr _ _ _ _ => kF9); (rename News _ _ _ _ => kN9); k_dflt (refine' col_app rfl rfl ?hd ?hu ?hX ?hT kF9 (col_led kN9) (by assumption) (by assumption) (by assumption) (by assumption) ?f0 ?f1 ?h1 ?h2 ?h3 ?h4 rfl ?hne ?hl ?y0 ?_; (case h1 => exact rfl); (case h2 => exact rfl); (case h3 => exact rfl); (case h4 => exact rfl); (case hd => omega); (case hu => omega); (case hX => k_asm); (case hT => k_asm); (case f0 => exact (fall_range _ _).1); (case f1 => exact (fall_range _ _).2); (case hne => k_all); (case hl => simp); (case y0 => exact col_ni _ _ (by assumption) (by assumption) (by assumption) (by assumption)); k_whole; intro h9 tk9 t9 e9 z9 F9 N9; (try dsimp only)))
  k_with "exec Expr" => (k_here; (rename Fr _ _ _ _ => kF9); (rename News _ _ _ _ => kN9); k_dflt (refine' col_app rfl rfl ?hd ?hu ?hX ?hT kF9 (col_led2 kN9) (by assumption) (by assumption) (by assumption) (by assumption) ?f0 ?f1 ?h1 ?h2 ?h3 ?h4 rfl ?hne ?hl ?y0 ?_; (case h1 => exact rfl); (case h2 => exact rfl); (case h3 => exact rfl); (case h4 => exact rfl); (case hd => omega); (case hu => omega); (case hX => k_asm); (case hT => k_asm); (case f0 => exact (fall_range _ _).1); (case f1 => exact (fall_range _ _).2); (case hne => k_all); (case hl => simp); (case y0 => exact col_ni _ _ (by assumption) (by assumption) (by assumption) (by assumption)); k_whole; intro h9 tk9 t9 e9 z9 F9 N9; (try dsimp only)))
  trivial
theorem col_led {h₀ h : Heap} {L : Addr} {a b c : Addr × Obj} (N : News h₀ L h [a, b, c]) : News h₀ L h [c, a, b] := fun p hp => N p (by
  simp only [List.mem_cons, List.not_mem_nil, or_false] at hp ⊢
  rcases hp with h | h | h <;> simp [h])
theorem col_led2 {h₀ h : Heap} {L : Addr} {a b c : Addr × Obj} (N : News h₀ L h [a, b, c]) : News h₀ L h [b, a, c] := fun p hp => N p (by
  simp only [List.mem_cons, List.not_mem_nil, or_false] at hp ⊢
  rcases hp with h | h | h <;> simp [h])
set_option maxRecDepth 100000 in
set_option maxHeartbeats 8000000 in
theorem c_col (w : World) {p s l : Int} (t1 t2 t3 : Nat) (h3 : 1 ≤ s) (h4 : s ≤ 4) (h5 : 0 ≤ l) (h6 : l < 16) : CtrT w 132 1 [.int p t1, .int s t2, .int l t3] (fun _ => True) (Out3 (col p s l 0, col p s l 64, col p s l 128)) := by
  unfold CtrT
  k_fill
  intro mean mg mb dp un gd cn cs a ccd cl outer A₀ base h₀ L m s Q E B F X T hk hpre hd hu htk hret
  refine wpAny_call ?_
  k_dflt (refine' callV (P := fun _ => True) hpre ?k1 ?k2 ?k3 ?k5 ?kA ?kF ?kK ?k6 ?k7 ?k8 ?k9 ?kB ?_ ?c2 ?c3 ?c4 ?c5; (case kA => exact rfl); (case kF => exact rfl); (case kK => assumption); (case k1 => k_asm); (case k2 => k_asm); (case k3 => k_asm); (case k5 => k_asm); (case k6 => k_is); (case k7 => k_is); (case k8 => ktr_room); (case k9 => exact BindsTo.of_eq rfl); (case c5 => decide); (case kB => exact locs rfl); (case c2 => exact rfl); (case c3 => exact rfl); (case c4 => exact rfl); k_whole)
  intro g' L' h' hpre' hst' F' N' B' X' T'
  clear B F X T hpre
  (try dsimp only)
  (try k_fold)
  k_steps
  all_goals ((try dsimp only); exact hret _ [_] _ _ (kept_of hst' (by assumption)) (made1 hst' (by assumption)) ⟨_, _, _, _, _, (by (refine ⟨?_, ?_, ?_⟩ <;> (try dsimp only) <;> assumption)), rfl, rfl⟩)
end Mine
open PySem PySem.W PyProof.Rows
set_option Elab.async false
namespace Mine
theorem w_clear_C4 : True := by
  w_top off
  k_with_none
  k_with "callWith" => (k_here; (with_reducible show wpAny _ _ (callWith _ (Value.builtin _) (_ :: _) (backTo _ (starEach (_ :: _) _)) []) _ _ _); (with_reducible refine' PyProof.Rows.callWith_method1 ?_ ?he ?hp); (case he => k_dflt rfl); (case hp => k_dflt rfl))
  k_with "callWith" => (k_here; (with_reducible show wpAny _ _ (callWith _ (Value.builtin _) [] (backTo _ (starEach (_ :: _) _)) []) _ _ _); (with_reducible refine' PyProof.Rows.callWith_builtin1 ?_ ?he ?hp); (case he => k_dflt rfl); (case hp => k_dflt rfl))
  trivial
noncomputable def dg (i : Int) : Str := ([Str.ofString "0", Str.ofString "1", Str.ofString "10", Str.ofString "11"]).getD i.toNat Str.empty
/-- a made list of texts comes back -/
noncomputable def OutL1 (a : Str) (tl : List (Addr × Obj)) (r : Value) : Prop := ∃ l t1 e, r = .ref l ∧ tl = [(l, W.listOf #[.str a t1] e)]
noncomputable def OutL2 (a b : Str) (tl : List (Addr × Obj)) (r : Value) : Prop := ∃ l t1 t2 e, r = .ref l ∧ tl = [(l, W.listOf #[.str a t1, .str b t2] e)]
noncomputable def OutL3 (a b c : Str) (tl : List (Addr × Obj)) (r : Value) : Prop := ∃ l t1 t2 t3 e, r = .ref l ∧ tl = [(l, W.listOf #[.str a t1, .str b t2, .str c t3] e)]
set_option maxRecDepth 100000 in
set_option maxHeartbeats 8000000 in
theorem c_fig1 (w : World) (n : Int) (t1 t2 : Tok) : Ctr w 111 1 [.int n t1, .int 1 t2] (fun _ => True) (OutL1 (dg (n.fmod 4))) := by
  unfold Ctr
  k_fill
  intro mean mg mb dp un gd cn cs a ccd cl outer A₀ base h₀ L m s Q E B F X T hk hpre hd hu hret
  refine wpAny_call ?_
  k_dflt (refine' callV (P := fun _ => True) hpre ?k1 ?k2 ?k3 ?k5 ?kA ?kF ?kK ?k6 ?k7 ?k8 ?k9 ?kB ?_ ?c2 ?c3 ?c4 ?c5; (case kA => exact rfl); (case kF => exact rfl); (case kK => assumption); (case k1 => k_asm); (case k2 => k_asm); (case k3 => k_asm); (case k5 => k_asm); (case k6 => k_is); (case k7 => k_is); (case k8 => ktr_room); (case k9 => exact BindsTo.of_eq rfl); (case c5 => decide); (case kB => exact locs rfl); (case c2 => exact rfl); (case c3 => exact rfl); (case c4 => exact rfl); k_whole)
  intro g' L' h' hpre' hst' F' N' B' X' T'
  clear B F X T hpre
  (try dsimp only)
  (try k_fold)
  (k_with "table" => skip)
  k_steps
  dsimp only
  exact hret _ [_] _ _ (kept_of hst' (by assumption)) (made_of hst' (by assumption) (by k_sub)) ⟨_, _, _, rfl, rfl⟩
set_option maxRecDepth 100000 in
set_option maxHeartbeats 8000000 in
theorem c_fig2 (w : World) (n : Int) (t1 t2 : Tok) : Ctr w 111 1 [.int n t1, .int 2 t2] (fun _ => True) (OutL2 (dg (n.fmod 4)) (dg ((n.fdiv 4).fmod 4))) := by
  unfold Ctr
  k_fill
  intro mean mg mb dp un gd cn cs a ccd cl outer A₀ base h₀ L m s Q E B F X T hk hpre hd hu hret
  refine wpAny_call ?_
  k_dflt (refine' callV (P := fun _ => True) hpre ?k1 ?k2 ?k3 ?k5 ?kA ?kF ?kK ?k6 ?k7 ?k8 ?k9 ?kB ?_ ?c2 ?c3 ?c4 ?c5; (case kA => exact rfl); (case kF => exact rfl); (case kK => assumption); (case k1 => k_asm); (case k2 => k_asm); (case k3 => k_asm); (case k5 => k_asm); (case k6 => k_is); (case k7 => k_is); (case k8 => ktr_room); (case k9 => exact BindsTo.of_eq rfl); (case c5 => decide); (case kB => exact locs rfl); (case c2 => exact rfl); (case c3 => exact rfl); (case c4 => exact rfl); k_whole)
  intro g' L' h' hpre' hst' F' N' B' X' T'
  clear B F X T hpre
  (try dsimp only)
  (try k_fold)
  (k_with "table" => skip)
  k_steps
  dsimp only
  exact hret _ [_] _ _ (kept_of hst' (by assumption)) (made_of hst' (by assumption) (by k_sub)) ⟨_, _, _, _, rfl, rfl⟩
set_option maxRecDepth 100000 in
set_option maxHeartbeats 8000000 in
theorem c_fig3 (w : World) (n : Int) (t1 t2 : Tok) : Ctr w 111 1 [.int n t1, .int 3 t2] (fun _ => True) (OutL3 (dg (n.fmod 4)) (dg ((n.fdiv 4).fmod 4)) (dg (((n.fdiv 4).fdiv 4).fmod 4))) := by
  unfold Ctr
  k_fill
  intro mean mg mb dp un gd cn cs a ccd cl outer A₀ base h₀ L m s Q E B F X T hk hpre hd hu hret
  refine wpAny_call ?_
  k_dflt (refine' callV (P := fun _ => True) hpre ?k1 ?k2 ?k3 ?k5 ?kA ?kF ?kK ?k6 ?k7 ?k8 ?k9 ?kB ?_ ?c2 ?c3 ?c4 ?c5; (case kA => exact rfl); (case kF => exact rfl); (case kK => assumption); (case k1 => k_asm); (case k2 => k_asm); (case k3 => k_asm); (case k5 => k_asm); (case k6 => k_is); (case k7 => k_is); (case k8 => ktr_room); (case k9 => exact BindsTo.of_eq rfl); (case c5 => decide); (case kB => exact locs rfl); (case c2 => exact rfl); (case c3 => exact rfl); (case c4 => exact rfl); k_whole)
  intro g' L' h' hpre' hst' F' N' B' X' T'
  clear B F X T hpre
  (try dsimp only)
  (try k_fold)
  (k_with "table" => skip)
  k_steps
  dsimp only
  exact hret _ [_] _ _ (kept_of hst' (by assumption)) (made_of hst' (by assumption) (by k_sub)) ⟨_, _, _, _, _, rfl, rfl⟩
end Mine
open PySem PySem.W PyProof.Rows
set_option Elab.async false
namespace Mine
theorem w_clear_C6 : True := by
  w_top off
  k_with_none
  k_with "callWith" => (k_here; (with_reducible show wpAny _ _ (callWith _ (Value.builtin _) (_ :: _) (backTo _ (starEach (_ :: _) _)) []) _ _ _); (with_reducible refine' PyProof.Rows.callWith_method1 ?_ ?he ?hp); (case he => k_dflt rfl); (case hp => k_dflt rfl))
  k_with "callWith" => (k_here; (with_reducible show wpAny _ _ (callWith _ (Value.builtin _) [] (backTo _ (starEach (_ :: _) _)) []) _ _ _); (with_reducible refine' PyProof.Rows.callWith_builtin1 ?_ ?he ?hp); (case he => k_dflt rfl); (case hp => k_dflt rfl))
  trivial
theorem dg_len (i : Int) : (dg i).length ≤ 2 := by
  unfold dg
  have h : ∀ k : Nat, (([Str.ofString "0", Str.ofString "1", Str.ofString "10", Str.ofString "11"]).getD k Str.empty).length ≤ 2 := by
    intro k
    match k with
    | 0 => decide
    | 1 => decide
    | 2 => decide
    | 3 => decide
    | k + 4 => show Str.empty.length ≤ 2; decide
  exact h _
/-- a text comes back, nothing is made -/
noncomputable def OutS (x : Str) (tl : List (Addr × Obj)) (r : Value) : Prop := ∃ t, r = .str x t ∧ tl = []
noncomputable def modT : Nat → Int → Str
  | 1, n => Txt.join (Str.ofString ".") [Str.ofString "hue", dg (n.fmod 4)]
  | 2, n => Txt.join (Str.ofString ".") [Str.ofString "hue", dg (n.fmod 4), dg ((n.fdiv 4).fmod 4)]
  | 3, n => Txt.join (Str.ofString ".") [Str.ofString "hue", dg (n.fmod 4), dg ((n.fdiv 4).fmod 4), dg (((n.fdiv 4).fdiv 4).fmod 4)]
  | _, _ => Str.empty
theorem mlen1 {a : Int} : ([Str.ofString "hue", dg a].map (·.length)).sum + [Str.ofString "hue", dg a].length * (Str.ofString ".").length ≤ 16777216 := by
  have h1 := dg_len a
  have h4 : (Str.ofString "hue").length = 3 := by decide
  have h5 : (Str.ofString ".").length = 1 := by decide
  simp only [List.map, List.sum_cons, List.sum_nil, List.length, h4, h5]
  omega
theorem mlen2 {a b : Int} : ([Str.ofString "hue", dg a, dg b].map (·.length)).sum + [Str.ofString "hue", dg a, dg b].length * (Str.ofString ".").length ≤ 16777216 := by
  have h1 := dg_len a
  have h2 := dg_len b
  have h4 : (Str.ofString "hue").length = 3 := by decide
  have h5 : (Str.ofString ".").length = 1 := by decide
  simp only [List.map, List.sum_cons, List.sum_nil, List.length, h4, h5]
  omega
theorem mlen3 {a b c : Int} : ([Str.ofString "hue", dg a, dg b, dg c].map (·.length)).sum + [Str.ofString "hue", dg a, dg b, dg c].length * (Str.ofString ".").length ≤ 16777216 := by
  have h1 := dg_len a
  have h2 := dg_len b
  have h3 := dg_len c
  have h4 : (Str.ofString "hue").length = 3 := by decide
  have h5 : (Str.ofString ".").length = 1 := by decide
  simp only [List.map, List.sum_cons, List.sum_nil, List.length, h4, h5]
  omega
theorem w_words_C6_1 : True := by
  k_with "call ref" => (k_here; k_dflt (refine' Ctr.use (c_fig1 _ _ _ _) ?k1 ?k2 ?k3 ?k4 ?k5 ?kK ?kp ?kd ?ku ?_; (case k1 => k_asm); (case k2 => k_asm); (case k3 => k_asm); (case k4 => k_asm); (case k5 => k_asm); (case kK => exact rfl); (case kp => exact True.intro); (case kd => ktr_room); (case ku => ktr_units); k_whole); intro r9 tl9 h9 tk9 F9 N9 hl9 ho9; obtain ⟨l9, a9, e9, q9, u9⟩ := ho9; subst q9; subst u9; (simp only [List.cons_append, List.nil_append] at N9); (try dsimp only))
  k_with "call ref" => (k_here; k_dflt (refine' Ctr.use (c_fig2 _ _ _ _) ?k1 ?k2 ?k3 ?k4 ?k5 ?kK ?kp ?kd ?ku ?_; (case k1 => k_asm); (case k2 => k_asm); (case k3 => k_asm); (case k4 => k_asm); (case k5 => k_asm); (case kK => exact rfl); (case kp => exact True.intro); (case kd => ktr_room); (case ku => ktr_units); k_whole); intro r9 tl9 h9 tk9 F9 N9 hl9 ho9; obtain ⟨l9, a9, b9, e9, q9, u9⟩ := ho9; subst q9; subst u9; (simp only [List.cons_append, List.nil_append] at N9); (try dsimp only))
  k_with "call ref" => (k_here; k_dflt (refine' Ctr.use (c_fig3 _ _ _ _) ?k1 ?k2 ?k3 ?k4 ?k5 ?kK ?kp ?kd ?ku ?_; (case k1 => k_asm); (case k2 => k_asm); (case k3 => k_asm); (case k4 => k_asm); (case k5 => k_asm); (case kK => exact rfl); (case kp => exact True.intro); (case kd => ktr_room); (case ku => ktr_units); k_whole); intro r9 tl9 h9 tk9 F9 N9 hl9 ho9; obtain ⟨l9, a9, b9, c9, e9, q9, u9⟩ := ho9; subst q9; subst u9; (simp only [List.cons_append, List.nil_append] at N9); (try dsimp only))
  k_with "call builtin:str.join" => (k_here; k_dflt (refine' join_list ?hl ?hi ?hok ?_; (case hl => is_list); (case hi => first | exact .cons _ _ (.cons _ _ .nil) | exact .cons _ _ (.cons _ _ (.cons _ _ .nil)) | exact .cons _ _ (.cons _ _ (.cons _ _ (.cons _ _ .nil)))); (case hok => first | exact mlen1 | exact mlen2 | exact mlen3); k_whole); intro t9 k9)
  trivial
set_option maxRecDepth 100000 in
set_option maxHeartbeats 8000000 in
theorem c_mod3 (w : World) (n : Int) (t1 t2 : Tok) : Ctr w 118 2 [.int n t1, .int 3 t2] (fun _ => True) (OutS (modT 3 n)) := by
  unfold Ctr
  k_fill
  intro mean mg mb dp un gd cn cs a ccd cl outer A₀ base h₀ L m s Q E B F X T hk hpre hd hu hret
  refine wpAny_call ?_
  k_dflt (refine' callV (P := fun _ => True) hpre ?k1 ?k2 ?k3 ?k5 ?kA ?kF ?kK ?k6 ?k7 ?k8 ?k9 ?kB ?_ ?c2 ?c3 ?c4 ?c5; (case kA => exact rfl); (case kF => exact rfl); (case kK => assumption); (case k1 => k_asm); (case k2 => k_asm); (case k3 => k_asm); (case k5 => k_asm); (case k6 => k_is); (case k7 => k_is); (case k8 => ktr_room); (case k9 => exact BindsTo.of_eq rfl); (case c5 => decide); (case kB => exact locs rfl); (case c2 => exact rfl); (case c3 => exact rfl); (case c4 => exact rfl); k_whole)
  intro g' L' h' hpre' hst' F' N' B' X' T'
  clear B F X T hpre
  (try dsimp only)
  (try k_fold)
  k_steps
  exact hret _ [] _ _ (kept_of hst' (by assumption)) (fun _ h => nomatch h) ⟨_, rfl, rfl⟩
set_option maxRecDepth 100000 in
set_option maxHeartbeats 8000000 in
theorem c_mod2 (w : World) (n : Int) (t1 t2 : Tok) : Ctr w 118 2 [.int n t1, .int 2 t2] (fun _ => True) (OutS (modT 2 n)) := by
  unfold Ctr
  k_fill
  intro mean mg mb dp un gd cn cs a ccd cl outer A₀ base h₀ L m s Q E B F X T hk hpre hd hu hret
  refine wpAny_call ?_
  k_dflt (refine' callV (P := fun _ => True) hpre ?k1 ?k2 ?k3 ?k5 ?kA ?kF ?kK ?k6 ?k7 ?k8 ?k9 ?kB ?_ ?c2 ?c3 ?c4 ?c5; (case kA => exact rfl); (case kF => exact rfl); (case kK => assumption); (case k1 => k_asm); (case k2 => k_asm); (case k3 => k_asm); (case k5 => k_asm); (case k6 => k_is); (case k7 => k_is); (case k8 => ktr_room); (case k9 => exact BindsTo.of_eq rfl); (case c5 => decide); (case kB => exact locs rfl); (case c2 => exact rfl); (case c3 => exact rfl); (case c4 => exact rfl); k_whole)
  intro g' L' h' hpre' hst' F' N' B' X' T'
  clear B F X T hpre
  (try dsimp only)
  (try k_fold)
  k_steps
  exact hret _ [] _ _ (kept_of hst' (by assumption)) (fun _ h => nomatch h) ⟨_, rfl, rfl⟩
set_option maxRecDepth 100000 in
set_option maxHeartbeats 8000000 in
theorem c_mod1 (w : World) (n : Int) (t1 t2 : Tok) : Ctr w 118 2 [.int n t1, .int 1 t2] (fun _ => True) (OutS (modT 1 n)) := by
  unfold Ctr
  k_fill
  intro mean mg mb dp un gd cn cs a ccd cl outer A₀ base h₀ L m s Q E B F X T hk hpre hd hu hret
  refine wpAny_call ?_
  k_dflt (refine' callV (P := fun _ => True) hpre ?k1 ?k2 ?k3 ?k5 ?kA ?kF ?kK ?k6 ?k7 ?k8 ?k9 ?kB ?_ ?c2 ?c3 ?c4 ?c5; (case kA => exact rfl); (case kF => exact rfl); (case kK => assumption); (case k1 => k_asm); (case k2 => k_asm); (case k3 => k_asm); (case k5 => k_asm); (case k6 => k_is); (case k7 => k_is); (case k8 => ktr_room); (case k9 => exact BindsTo.of_eq rfl); (case c5 => decide); (case kB => exact locs rfl); (case c2 => exact rfl); (case c3 => exact rfl); (case c4 => exact rfl); k_whole)
  intro g' L' h' hpre' hst' F' N' B' X' T'
  clear B F X T hpre
  (try dsimp only)
  (try k_fold)
  k_steps
  exact hret _ [] _ _ (kept_of hst' (by assumption)) (fun _ h => nomatch h) ⟨_, rfl, rfl⟩
end Mine
open PySem PySem.W PyProof.Rows
set_option Elab.async false
namespace Mine
theorem w_clear_C7 : True := by
  w_top off
  k_with_none
  k_with "callWith" => (k_here; (with_reducible show wpAny _ _ (callWith _ (Value.builtin _) (_ :: _) (backTo _ (starEach (_ :: _) _)) []) _ _ _); (with_reducible refine' PyProof.Rows.callWith_method1 ?_ ?he ?hp); (case he => k_dflt rfl); (case hp => k_dflt rfl))
  k_with "callWith" => (k_here; (with_reducible show wpAny _ _ (callWith _ (Value.builtin _) [] (backTo _ (starEach (_ :: _) _)) []) _ _ _); (with_reducible refine' PyProof.Rows.callWith_builtin1 ?_ ?he ?hp); (case he => k_dflt rfl); (case hp => k_dflt rfl))
  trivial
noncomputable def fldT : Nat → Int → Str
  | 1, n => Txt.join (Str.ofString "/") [Str.ofString "", Str.ofString "light", dg (n.fmod 4)]
  | 2, n => Txt.join (Str.ofString "/") [Str.ofString "", Str.ofString "light", dg ((n.fdiv 4).fmod 4), dg (n.fmod 4)]
  | _, _ => Str.empty
theorem flen1 {a : Int} : ([Str.ofString "", Str.ofString "light", dg a].map (·.length)).sum + [Str.ofString "", Str.ofString "light", dg a].length * (Str.ofString "/").length ≤ 16777216 := by
  have h1 := dg_len a
  have h3 : (Str.ofString "").length = 0 := by decide
  have h4 : (Str.ofString "light").length = 5 := by decide
  have h5 : (Str.ofString "/").length = 1 := by decide
  simp only [List.map, List.sum_cons, List.sum_nil, List.length, h3, h4, h5]
  omega
theorem flen2 {a b : Int} : ([Str.ofString "", Str.ofString "light", dg a, dg b].map (·.length)).sum + [Str.ofString "", Str.ofString "light", dg a, dg b].length * (Str.ofString "/").length ≤ 16777216 := by
  have h1 := dg_len a
  have h2 := dg_len b
  have h3 : (Str.ofString "").length = 0 := by decide
  have h4 : (Str.ofString "light").length = 5 := by decide
  have h5 : (Str.ofString "/").length = 1 := by decide
  simp only [List.map, List.sum_cons, List.sum_nil, List.length, h3, h4, h5]
  omega
theorem w_words_C7_1 : True := by
  k_with "call ref" => (k_here; k_dflt (refine' Ctr.use (c_fig1 _ _ _ _) ?k1 ?k2 ?k3 ?k4 ?k5 ?kK ?kp ?kd ?ku ?_; (case k1 => k_asm); (case k2 => k_asm); (case k3 => k_asm); (case k4 => k_asm); (case k5 => k_asm); (case kK => exact rfl); (case kp => exact True.intro); (case kd => ktr_room); (case ku => ktr_units); k_whole); intro r9 tl9 h9 tk9 F9 N9 hl9 ho9; obtain ⟨l9, a9, e9, q9, u9⟩ := ho9; subst q9; subst u9; (simp only [List.cons_append, List.nil_append] at N9); (try dsimp only))
  k_with "call ref" => (k_here; k_dflt (refine' Ctr.use (c_fig2 _ _ _ _) ?k1 ?k2 ?k3 ?k4 ?k5 ?kK ?kp ?kd ?ku ?_; (case k1 => k_asm); (case k2 => k_asm); (case k3 => k_asm); (case k4 => k_asm); (case k5 => k_asm); (case kK => exact rfl); (case kp => exact True.intro); (case kd => ktr_room); (case ku => ktr_units); k_whole); intro r9 tl9 h9 tk9 F9 N9 hl9 ho9; obtain ⟨l9, a9, b9, e9, q9, u9⟩ := ho9; subst q9; subst u9; (simp only [List.cons_append, List.nil_append] at N9); (try dsimp only))
  k_with "call ref" => (k_here; k_dflt (refine' Ctr.use (c_fig3 _ _ _ _) ?k1 ?k2 ?k3 ?k4 ?k5 ?kK ?kp ?kd ?ku ?_; (case k1 => k_asm); (case k2 => k_asm); (case k3 => k_asm); (case k4 => k_asm); (case k5 => k_asm); (case kK => exact rfl); (case kp => exact True.intro); (case kd => ktr_room); (case ku => ktr_units); k_whole); intro r9 tl9 h9 tk9 F9 N9 hl9 ho9; obtain ⟨l9, a9, b9, c9, e9, q9, u9⟩ := ho9; subst q9; subst u9; (simp only [List.cons_append, List.nil_append] at N9); (try dsimp only))
  k_with "call builtin:str.join" => (k_here; k_dflt (refine' join_list ?hl ?hi ?hok ?_; (case hl => is_list); (case hi => first | exact .cons _ _ (.cons _ _ (.cons _ _ .nil)) | exact .cons _ _ (.cons _ _ (.cons _ _ (.cons _ _ .nil)))); (case hok => first | exact flen1 | exact flen2); k_whole); intro t9 k9)
  trivial
set_option maxRecDepth 100000 in
set_option maxHeartbeats 8000000 in
theorem c_fld1 (w : World) (n : Int) (t1 t2 : Tok) : Ctr w 125 2 [.int n t1, .int 1 t2] (fun _ => True) (OutS (fldT 1 n)) := by
  unfold Ctr
  k_fill
  intro mean mg mb dp un gd cn cs a ccd cl outer A₀ base h₀ L m s Q E B F X T hk hpre hd hu hret
  refine wpAny_call ?_
  k_dflt (refine' callV (P := fun _ => True) hpre ?k1 ?k2 ?k3 ?k5 ?kA ?kF ?kK ?k6 ?k7 ?k8 ?k9 ?kB ?_ ?c2 ?c3 ?c4 ?c5; (case kA => exact rfl); (case kF => exact rfl); (case kK => assumption); (case k1 => k_asm); (case k2 => k_asm); (case k3 => k_asm); (case k5 => k_asm); (case k6 => k_is); (case k7 => k_is); (case k8 => ktr_room); (case k9 => exact BindsTo.of_eq rfl); (case c5 => decide); (case kB => exact locs rfl); (case c2 => exact rfl); (case c3 => exact rfl); (case c4 => exact rfl); k_whole)
  intro g' L' h' hpre' hst' F' N' B' X' T'
  clear B F X T hpre
  (try dsimp only)
  (try k_fold)
  k_steps
  exact hret _ [] _ _ (kept_of hst' (by assumption)) (fun _ h => nomatch h) ⟨_, rfl, rfl⟩
set_option maxRecDepth 100000 in
set_option maxHeartbeats 8000000 in
theorem c_fld2 (w : World) (n : Int) (t1 t2 : Tok) : Ctr w 125 2 [.int n t1, .int 2 t2] (fun _ => True) (OutS (fldT 2 n)) := by
  unfold Ctr
  k_fill
  intro mean mg mb dp un gd cn cs a ccd cl outer A₀ base h₀ L m s Q E B F X T hk hpre hd hu hret
  refine wpAny_call ?_
  k_dflt (refine' callV (P := fun _ => True) hpre ?k1 ?k2 ?k3 ?k5 ?kA ?kF ?kK ?k6 ?k7 ?k8 ?k9 ?kB ?_ ?c2 ?c3 ?c4 ?c5; (case kA => exact rfl); (case kF => exact rfl); (case kK => assumption); (case k1 => k_asm); (case k2 => k_asm); (case k3 => k_asm); (case k5 => k_asm); (case k6 => k_is); (case k7 => k_is); (case k8 => ktr_room); (case k9 => exact BindsTo.of_eq rfl); (case c5 => decide); (case kB => exact locs rfl); (case c2 => exact rfl); (case c3 => exact rfl); (case c4 => exact rfl); k_whole)
  intro g' L' h' hpre' hst' F' N' B' X' T'
  clear B F X T hpre
  (try dsimp only)
  (try k_fold)
  k_steps
  exact hret _ [] _ _ (kept_of hst' (by assumption)) (fun _ h => nomatch h) ⟨_, rfl, rfl⟩
end Mine
open PySem PySem.W PyProof.Rows
set_option Elab.async false
namespace Mine
/-! a for loop over a list, any target, by an invariant over the frame and the ledger -/
section
variable {prog : Program} {w : World} {A : Around} {E : Value → Shared → Prop} {s : Shared} {env : Env} {h₀ : Heap} {target : Expr} {body : List Stmt} {Q : Flow → Shared → Prop}

noncomputable def TEnd (h₀ : Heap) (L : Addr) (Jn : (Str → Option Value) → List (Addr × Obj) → Prop) (I : Addr) (oI : Obj) (s s₂ : Shared) : Prop :=
  ∃ h' tk m' news' nx', s₂ = { s with heap := h', toks := tk } ∧ Fr h₀ L h' m' ∧ News h₀ L h' news' ∧ (I, oI) ∈ news' ∧ (∀ p ∈ nx', p ∈ news') ∧ AllNe I nx' ∧ Jn m' nx'
noncomputable def TPost (h₀ : Heap) (L : Addr) (Jn : (Str → Option Value) → List (Addr × Obj) → Prop) (I : Addr) (oI : Obj) (s : Shared) (Q : Flow → Shared → Prop) (f : Flow) (s₂ : Shared) : Prop :=
  match f with
  | .ret v => Q (.ret v) s₂
  | .brk => Q .next s₂
  | _ => TEnd h₀ L Jn I oI s s₂
theorem TEnd.intro {L : Addr} {Jn : (Str → Option Value) → List (Addr × Obj) → Prop} {I : Addr} {oI : Obj} {h' : Heap} {tk : Nat} {m' : Str → Option Value} {news' nx' : List (Addr × Obj)}
    (F : Fr h₀ L h' m') (N : News h₀ L h' news') (hI : (I, oI) ∈ news') (hs : ∀ p ∈ nx', p ∈ news') (hn : AllNe I nx') (hj : Jn m' nx') : TEnd h₀ L Jn I oI s { s with heap := h', toks := tk } :=
  ⟨h', tk, m', news', nx', rfl, F, N, hI, hs, hn, hj⟩

noncomputable def isTupT : Expr → Bool
  | .Tuple .. => true
  | _ => false
noncomputable def isNameT : Expr → Bool
  | .Name .. => true
  | _ => false

theorem go_list {I l : Addr} {i : Nat} {v : Value} {Q : Unit → Shared → Prop} (ht : (isTupT target = true ∧ ∃ a, v = .ref a) ∨ isNameT target = true) (hit : s.heap.IsListIter I l i) (hQ : Q () s) :
    wpAny (model prog w) A (letOwnedTupleGo target (.ref I) v) Q E s := by
  rcases ht with ⟨ht, a, rfl⟩ | ht
  · cases target <;> simp [isTupT] at ht
    exact wpAny_letOwnedTupleGo_listiter hit hQ
  · cases target <;> simp [isNameT] at ht
    exact wpAny_pure hQ

theorem for_list {n₀ : Nat} (hn₀ : n₀ ≤ s.toks) {l : Addr} {ol : Obj} {vs : List Value} {m₀ : Str → Option Value} {nx₀ : List (Addr × Obj)} (hc : ol.cls = .type "list") (hd : ∃ n, ol.data = .seq vs.toArray n)
    (J : Nat → (Str → Option Value) → List (Addr × Obj) → Prop) (hh : A.handled = none)
    (hol : ∀ i m' nx h', J i m' nx → Fr h₀ env.locals h' m' → News h₀ env.locals h' nx → h'.get? l = some ol)
    (F : Fr h₀ env.locals s.heap m₀) (N : News h₀ env.locals s.heap nx₀) (h0 : J 0 m₀ nx₀)
    (ht : (isTupT target = true ∧ ∀ v ∈ vs, ∃ a, v = .ref a) ∨ isNameT target = true)
    (turn : ∀ i v m₁ nx h tk I oI, n₀ ≤ tk → vs[i]? = some v → J i m₁ nx → Fr h₀ env.locals h m₁ → News h₀ env.locals h ((I, oI) :: nx) → AllNe I nx →
      wpAny (model prog w) A (assign target env v) (fun _ s₃ => wpAny (model prog w) A (execs body env) (TPost h₀ env.locals (J (i + 1)) I oI s Q) (fun _ _ => False) s₃) (fun _ _ => False) { s with heap := h, toks := tk })
    (done : ∀ m₁ nx h tk, n₀ ≤ tk → J vs.length m₁ nx → Fr h₀ env.locals h m₁ → News h₀ env.locals h nx → Q .next { s with heap := h, toks := tk }) :
    wpAny (model prog w) A (pyIter (.ref l)) (fun it s₂ => codeAny (model prog w) A (.forLoop target it body [] env) (fun r s' => match r with | .ok f => Q f s' | .error e => cameBackBy (model prog w) A env E e s') s₂) E s := by
  have hls : ∀ {h : Heap}, h.get? l = some ol → h.IsList l vs.toArray := fun e => ⟨ol, e, hc, hd⟩
  have h0l : s.heap.get? l = some ol := hol 0 m₀ nx₀ s.heap h0 F N
  refine wpAny_pyIter_list (hls h0l) ?_
  have hne : l ≠ s.heap.objs.size := Nat.ne_of_lt (Heap.lt_size h0l)
  have W := Walks.list (prog := prog) (w := w) hh s.heap.objs.size l hne vs.toArray
  have hsz : vs.toArray.size = vs.length := by simp
  rw [hsz] at W
  have hI0 : h₀.get? s.heap.objs.size = none := next_is_new F
  have hIL : s.heap.objs.size ≠ env.locals := fun e => absurd F.ns.lt (e ▸ Nat.lt_irrefl _)
  refine codeAny_forLoop_any
    (fun k s' => ∃ h' tk m' nx i, s' = { s with heap := h', toks := tk } ∧ (h'.IsListIter s.heap.objs.size l i ∧ h'.IsList l vs.toArray) ∧ Fr h₀ env.locals h' m' ∧ News h₀ env.locals h' nx ∧ AllNe s.heap.objs.size nx ∧ J i m' nx ∧ i ≤ vs.length ∧ n₀ ≤ tk ∧ k = vs.length + 1 - i) ?_ (vs.length + 1)
    ⟨_, s.toks, m₀, nx₀, 0, rfl, ⟨⟨_, Heap.get?_push_size _ rfl, rfl, rfl⟩, (hls h0l).at fun o e => Heap.get?_push_of_some _ e⟩, F.push _, fun p hp => ⟨Heap.get?_push_of_some _ (N p hp).1, (N p hp).2⟩, allNe_of fun p hp => Nat.ne_of_lt (Heap.lt_size (N p hp).1), h0, Nat.zero_le _, hn₀, rfl⟩
  rintro k s' ⟨h', tk, m', nx, i, rfl, hst, F', N', hn', hJ, hi, htk, rfl⟩
  have next : ∀ h₁ : Heap, (∀ b o, b ∉ [s.heap.objs.size] → h'.get? b = some o → h₁.get? b = some o) → Fr h₀ env.locals h₁ m' ∧ News h₀ env.locals h₁ nx := fun h₁ hk₁ =>
    ⟨⟨F'.ns.at' fun o e => hk₁ _ o (fun hm => hIL (List.mem_singleton.mp hm).symm) e, fun b o e => hk₁ b o (fun hm => by rw [List.mem_singleton.mp hm, hI0] at e; cases e) (F'.keep b o e), F'.above⟩,
      fun p hp => ⟨hk₁ _ _ (fun hm => hn'.ne p hp (List.mem_singleton.mp hm)) (N' p hp).1, (N' p hp).2⟩⟩
  by_cases hlt : i < vs.length
  · refine wpAny_with_toks (n := n₀) htk ?_
    refine W.item i _ _ _ hlt hst fun v h₁ tk₁ hP hst₁ hk₁ htk₁ => ?_
    obtain ⟨F₁, N₁⟩ := next h₁ hk₁
    have hv : vs[i]? = some v := by simpa using hP
    obtain ⟨oI, hoI, hIc, hId⟩ := id hst₁.1
    have NI : News h₀ env.locals h₁ ((s.heap.objs.size, oI) :: nx) := fun p hp => by
      rcases List.mem_cons.mp hp with rfl | hp
      · exact ⟨hoI, hIL, hI0⟩
      · exact N₁ p hp
    refine go_list (ht.imp (fun h => ⟨h.1, h.2 v (List.mem_of_getElem? hv)⟩) id) hst₁.1 ?_
    refine wpAny_mono (wpAny_toks_of (n := n₀) htk₁ (turn i v m' nx h₁ tk₁ s.heap.objs.size oI htk₁ hv hJ F₁ NI hn')) (fun _ s₂ h₂ => wpAny_mono (wpAny_toks_of (n := n₀) h₂.1 h₂.2) (fun f s₃ h₃ => ?_) fun _ _ h => h.2.elim) fun _ _ h => h.2.elim
    obtain ⟨htk₃, h₃⟩ := h₃
    have fin : TEnd h₀ env.locals (J (i + 1)) s.heap.objs.size oI s s₃ → ∃ m, m < vs.length + 1 - i ∧ ∃ h' tk m' nx i, s₃ = { s with heap := h', toks := tk } ∧ (h'.IsListIter s.heap.objs.size l i ∧ h'.IsList l vs.toArray) ∧ Fr h₀ env.locals h' m' ∧ News h₀ env.locals h' nx ∧ AllNe s.heap.objs.size nx ∧ J i m' nx ∧ i ≤ vs.length ∧ n₀ ≤ tk ∧ m = vs.length + 1 - i := by
      rintro ⟨h', tk, m₂, news₂, nx₂, rfl, F₂, N₂, hI₂, hs₂, hn₂, hj₂⟩
      have N₃ : News h₀ env.locals h' nx₂ := fun p hp => N₂ p (hs₂ p hp)
      exact ⟨vs.length + 1 - (i + 1), by omega, h', tk, m₂, nx₂, i + 1, rfl, ⟨⟨oI, (N₂ _ hI₂).1, hIc, hId⟩, hls (hol _ _ _ _ hj₂ F₂ N₃)⟩, F₂, N₃, hn₂, hj₂, hlt, htk₃, rfl⟩
    cases f with
    | ret v => exact h₃
    | brk => exact h₃
    | next => exact fin h₃
    | cont => exact fin h₃
  · have hin : i = vs.length := by omega
    subst hin
    refine wpAny_with_toks (n := n₀) htk ?_
    refine W.done _ _ _ hst fun h₁ tk₁ hk₁ htk₁ => wpAny_execs_nil ?_
    obtain ⟨F₁, N₁⟩ := next h₁ hk₁
    exact done m' nx h₁ tk₁ htk₁ hJ F₁ N₁

theorem for_led {n₀ : Nat} (hn₀ : n₀ ≤ s.toks) {l : Addr} {vs : List Value} {nn : Nat} {m₀ : Str → Option Value} {nx₀ : List (Addr × Obj)}
    (F : Fr h₀ env.locals s.heap m₀) (N : News h₀ env.locals s.heap nx₀) (_hm : (l, W.listOf vs.toArray nn) ∈ nx₀)
    (J : Nat → (Str → Option Value) → List (Addr × Obj) → Prop) (h0 : J 0 m₀ nx₀) (hh : A.handled = none)
    (hol : ∀ i m' nx, J i m' nx → (l, W.listOf vs.toArray nn) ∈ nx)
    (ht : (isTupT target = true ∧ ∀ v ∈ vs, ∃ a, v = .ref a) ∨ isNameT target = true)
    (turn : ∀ i v m₁ nx h tk I oI, n₀ ≤ tk → vs[i]? = some v → J i m₁ nx → Fr h₀ env.locals h m₁ → News h₀ env.locals h ((I, oI) :: nx) → AllNe I nx →
      wpAny (model prog w) A (assign target env v) (fun _ s₃ => wpAny (model prog w) A (execs body env) (TPost h₀ env.locals (J (i + 1)) I oI s Q) (fun _ _ => False) s₃) (fun _ _ => False) { s with heap := h, toks := tk })
    (done : ∀ m₁ nx h tk, n₀ ≤ tk → J vs.length m₁ nx → Fr h₀ env.locals h m₁ → News h₀ env.locals h nx → Q .next { s with heap := h, toks := tk }) :
    wpAny (model prog w) A (pyIter (.ref l)) (fun it s₂ => codeAny (model prog w) A (.forLoop target it body [] env) (fun r s' => match r with | .ok f => Q f s' | .error e => cameBackBy (model prog w) A env E e s') s₂) E s :=
  for_list hn₀ (ol := W.listOf vs.toArray nn) rfl ⟨nn, rfl⟩ J hh (fun i m' nx _ hJ _ N' => (N' _ (hol i m' nx hJ)).1) F N h0 ht turn done
end
end Mine
open PySem PySem.W PyProof.Rows
set_option Elab.async false
namespace Mine
noncomputable def lawNames : List Str := ["place", "level", "share", "known", "red", "green", "blue", "hue", "told", "value", "painted", "far_hue", "light", "other"].map Str.ofString
noncomputable def fileT (k : Bool) (l : Int) : Option Str := if k then some (fldT 2 l ++ Str.ofString "/spot.py") else none
/-- what the loop of law has made of the first i spots -/
noncomputable def LawJ (tn : Int) (mi fl : Bool) (qs : List Spot) (m₀ : Str → Option Value) (lm lf lx ly : Addr) (rest : List (Addr × Obj)) (i : Nat) (m' : Str → Option Value) (nx : List (Addr × Obj)) : Prop :=
  ∃ (u : Str → Option Value) (vM vF vX vY : List Value) (e1 e2 e3 e4 : Nat), m' = (fun y => if lawNames.contains y = true then u y else m₀ y) ∧
    nx = (ly, W.listOf vY.toArray e4) :: (lx, W.listOf vX.toArray e3) :: (lf, W.listOf vF.toArray e2) :: (lm, W.listOf vM.toArray e1) :: rest ∧
    StrsAre vM ((qs.take i).map fun q => modT 3 q.p) ∧ OptsAre vF ((qs.take i).map fun q => fileT q.k q.l) ∧
    StrsAre vX ((qs.take i).map fun q => modT 3 (moveP mi tn q.p)) ∧ OptsAre vY ((qs.take i).map fun q => fileT q.k (moveL fl q.l))
section
variable {prog : Program} {w : World} {A : Around} {E : Value → Shared → Prop} {s : Shared} {env : Env} {h₀ : Heap} {target : Expr} {body : List Stmt} {Q : Flow → Shared → Prop}
theorem law_loop (hn₀ : 1 ≤ s.toks) {l ly lx lf lm : Addr} {us : List Value} {nn e1 e2 e3 e4 : Nat} {m₀ : Str → Option Value} {rest tT : List (Addr × Obj)} {qs : List Spot} (tn : Int) (mi fl : Bool)
    (F : Fr h₀ env.locals s.heap m₀) (N : News h₀ env.locals s.heap ((ly, W.listOf #[] e4) :: (lx, W.listOf #[] e3) :: (lf, W.listOf #[] e2) :: (lm, W.listOf #[] e1) :: rest)) (hm : (l, W.listOf us.toArray nn) ∈ rest)
    (dS : DatAll tT us (qs.map Spot.dat)) (hh : A.handled = none) (ht : isTupT target = true)
    (turn : ∀ i q a t1 t2 t3 n (u : Str → Option Value) vM vF vX vY e1 e2 e3 e4 h tk I oI, 1 ≤ tk → qs[i]? = some q → (a, tupObj [.int q.p t1, .int q.l t2, .int q.s t3, .bool q.k] n) ∈ tT →
      StrsAre vM ((qs.take i).map fun q => modT 3 q.p) → OptsAre vF ((qs.take i).map fun q => fileT q.k q.l) → StrsAre vX ((qs.take i).map fun q => modT 3 (moveP mi tn q.p)) → OptsAre vY ((qs.take i).map fun q => fileT q.k (moveL fl q.l)) →
      Fr h₀ env.locals h (fun y => if lawNames.contains y = true then u y else m₀ y) →
      News h₀ env.locals h ((I, oI) :: (ly, W.listOf vY.toArray e4) :: (lx, W.listOf vX.toArray e3) :: (lf, W.listOf vF.toArray e2) :: (lm, W.listOf vM.toArray e1) :: rest) →
      AllNe I ((ly, W.listOf vY.toArray e4) :: (lx, W.listOf vX.toArray e3) :: (lf, W.listOf vF.toArray e2) :: (lm, W.listOf vM.toArray e1) :: rest) →
      wpAny (model prog w) A (assign target env (.ref a)) (fun _ s₃ => wpAny (model prog w) A (execs body env) (TPost h₀ env.locals (LawJ tn mi fl qs m₀ lm lf lx ly rest (i + 1)) I oI s Q) (fun _ _ => False) s₃) (fun _ _ => False) { s with heap := h, toks := tk })
    (done : ∀ (u : Str → Option Value) vM vF vX vY e1 e2 e3 e4 h tk,
      StrsAre vM (qs.map fun q => modT 3 q.p) → OptsAre vF (qs.map fun q => fileT q.k q.l) → StrsAre vX (qs.map fun q => modT 3 (moveP mi tn q.p)) → OptsAre vY (qs.map fun q => fileT q.k (moveL fl q.l)) →
      Fr h₀ env.locals h (fun y => if lawNames.contains y = true then u y else m₀ y) →
      News h₀ env.locals h ((ly, W.listOf vY.toArray e4) :: (lx, W.listOf vX.toArray e3) :: (lf, W.listOf vF.toArray e2) :: (lm, W.listOf vM.toArray e1) :: rest) → Q .next { s with heap := h, toks := tk }) :
    wpAny (model prog w) A (pyIter (.ref l)) (fun it s₂ => codeAny (model prog w) A (.forLoop target it body [] env) (fun r s' => match r with | .ok f => Q f s' | .error e => cameBackBy (model prog w) A env E e s') s₂) E s := by
  refine for_led hn₀ F N (.tail _ (.tail _ (.tail _ (.tail _ hm)))) (LawJ tn mi fl qs m₀ lm lf lx ly rest) ⟨m₀, [], [], [], [], _, _, _, _, (by funext y; exact (ite_self _).symm), rfl, .nil, .nil, .nil, .nil⟩ hh ?_ (.inl ⟨ht, spots_ref dS⟩) ?_ ?_
  · rintro i m' nx ⟨u, vM, vF, vX, vY, e1, e2, e3, e4, rfl, rfl, _⟩
    exact .tail _ (.tail _ (.tail _ (.tail _ hm)))
  · rintro i v m₁ nx h tk I oI htk hv ⟨u, vM, vF, vX, vY, e1, e2, e3, e4, rfl, rfl, h1, h2, h3, h4⟩ F' N' hn
    obtain ⟨q, hq, a, t1, t2, t3, n, rfl, ha⟩ := spot_at dS hv
    exact turn i q a t1 t2 t3 n u vM vF vX vY e1 e2 e3 e4 h tk I oI htk hq ha h1 h2 h3 h4 F' N' hn
  · rintro m₁ nx h tk _ ⟨u, vM, vF, vX, vY, e1, e2, e3, e4, rfl, rfl, h1, h2, h3, h4⟩ F' N'
    have hl : us.length = qs.length := by have := dS.length; rwa [List.length_map] at this
    rw [hl, List.take_length] at h1 h2 h3 h4
    exact done u vM vF vX vY e1 e2 e3 e4 h tk h1 h2 h3 h4 F' N'
end
end Mine
open PySem PySem.W PyProof.Rows
set_option Elab.async false
namespace Mine
noncomputable def lawDef : Option (List Stmt × Scope) := findDef (Str.ofString "law") PySem.Challenge.pw_pg0115_01.main.body
noncomputable def lawScope : Option Scope := match lawDef with | some (_, sc) => some sc | none => none
noncomputable def lawSt (i : Nat) : Option Stmt := lawDef.bind fun d => d.1[i]?
noncomputable def turnSt (i : Nat) : Option Stmt := (lawSt 9).bind fun t => match t with | .For _ _ body _ _ => body[i]? | _ => none

theorem tdiv_ni {a : Int} {d j : Nat} (hd : d = 2 ^ j) (hj : j ≤ 1000) (ha : a.natAbs < 2 ^ 53) : ¬ Float64.isInf (tdiv a d) = true := by
  have h := tdiv_finite hd hj ha
  rw [fin_inf h]; decide
theorem tdiv_same {a : Int} {d j : Nat} (hd : d = 2 ^ j) (hj : j ≤ 1000) (ha : a.natAbs < 2 ^ 53) : Float64.cmp (tdiv a d) (tdiv a d) = some .eq := by
  rw [tdiv_cmp hd hj ha ha]
  simp [compare, compareOfLessAndEq]

/-! whole numbers out of floats -/
theorem mul_hue {p : Int} (p0 : 0 ≤ p) (p1 : p < 64) : Float64.mul (Float64.ofInt 64) (tdiv p 64) = tdiv (64 * p) ((1 * 64 : Nat) : Int) := by
  rw [ofInt_tdiv]
  exact tdiv_mul (c := 1) (d := 64) (i := 0) (j := 6) rfl (by decide) rfl (by decide) (by decide) (small (by omega)) (by decide) p0
theorem hue_fin {p : Int} (p0 : 0 ≤ p) (p1 : p < 64) : Float64.isFinite (Float64.mul (Float64.ofInt 64) (tdiv p 64)) = true := by
  rw [mul_hue p0 p1]; exact tdiv_finite (j := 6) rfl (by decide) (small (by omega))
theorem hue_int {p : Int} (p0 : 0 ≤ p) (p1 : p < 64) : Flt.toInt Float64.truncOf (Float64.mul (Float64.ofInt 64) (tdiv p 64)) = p := by
  rw [mul_hue p0 p1, toInt_tdiv (j := 6) rfl (by decide) (small (by omega)) (by omega)]
  omega
theorem mul_val {k : Int} (p0 : 0 ≤ k) (p1 : k ≤ 16) : Float64.mul (Float64.ofInt 16) (tdiv k 16) = tdiv (16 * k) ((1 * 16 : Nat) : Int) := by
  rw [ofInt_tdiv]
  exact tdiv_mul (c := 1) (d := 16) (i := 0) (j := 4) rfl (by decide) rfl (by decide) (by decide) (small (by omega)) (by decide) p0
theorem val_fin {k : Int} (p0 : 0 ≤ k) (p1 : k ≤ 16) : Float64.isFinite (Float64.mul (Float64.ofInt 16) (tdiv k 16)) = true := by
  rw [mul_val p0 p1]; exact tdiv_finite (j := 4) rfl (by decide) (small (by omega))
theorem val_int {k : Int} (p0 : 0 ≤ k) (p1 : k ≤ 16) : Flt.toInt Float64.truncOf (Float64.mul (Float64.ofInt 16) (tdiv k 16)) = k := by
  rw [mul_val p0 p1, toInt_tdiv (j := 4) rfl (by decide) (small (by omega)) (by omega)]
  omega
theorem light_div {k c : Int} (k0 : 0 ≤ k) (k1 : k ≤ 16) (c0 : 4 ≤ c) (c1 : c ≤ 7) : Float64.div (Float64.mul (Float64.ofInt 128) (tdiv (k * c) 128)) (Float64.ofInt c) = tdiv k ((1 : Nat) : Int) := by
  have hkc : 0 ≤ k * c := Int.mul_nonneg k0 (by omega)
  have hkc2 : k * c ≤ 16 * 7 := Int.mul_le_mul k1 c1 (by omega) (by decide)
  have h1 : Float64.mul (Float64.ofInt 128) (tdiv (k * c) 128) = tdiv (k * c) ((1 : Nat) : Int) := by
    rw [ofInt_tdiv]
    rw [show (128 : Int) = ((128 : Nat) : Int) from rfl, tdiv_mul (c := 1) (d := 128) (i := 0) (j := 7) rfl (by decide) rfl (by decide) (by decide) (small (by omega)) (by decide) hkc]
    exact tdiv_eq (by decide) (by decide) (by omega)
  rw [h1, ofInt_tdiv, tdiv_div (j := 0) rfl (by decide) (small (by omega)) (small (by omega)) (by omega)]
  exact tdiv_eq (by omega) (by decide) (by omega)
theorem light_fin {k c : Int} (k0 : 0 ≤ k) (k1 : k ≤ 16) (c0 : 4 ≤ c) (c1 : c ≤ 7) : Float64.isFinite (Float64.div (Float64.mul (Float64.ofInt 128) (tdiv (k * c) 128)) (Float64.ofInt c)) = true := by
  rw [light_div k0 k1 c0 c1]; exact tdiv_finite (j := 0) rfl (by decide) (small (by omega))
theorem light_int {k c : Int} (k0 : 0 ≤ k) (k1 : k ≤ 16) (c0 : 4 ≤ c) (c1 : c ≤ 7) : Flt.toInt Float64.truncOf (Float64.div (Float64.mul (Float64.ofInt 128) (tdiv (k * c) 128)) (Float64.ofInt c)) = k := by
  rw [light_div k0 k1 c0 c1, toInt_tdiv (j := 0) rfl (by decide) (small (by omega)) k0]
  omega

theorem dg_cases (i : Int) : dg i = Str.ofString "0" ∨ dg i = Str.ofString "1" ∨ dg i = Str.ofString "10" ∨ dg i = Str.ofString "11" ∨ dg i = Str.empty := by
  unfold dg
  generalize i.toNat = k
  match k with
  | 0 => exact .inl rfl
  | 1 => exact .inr (.inl rfl)
  | 2 => exact .inr (.inr (.inl rfl))
  | 3 => exact .inr (.inr (.inr (.inl rfl)))
  | k + 4 => exact .inr (.inr (.inr (.inr rfl)))
theorem fld_len (n : Int) : (fldT 2 n).length ≤ 20 := by
  show (Txt.join (Str.ofString "/") [Str.ofString "", Str.ofString "light", dg ((n.fdiv 4).fmod 4), dg (n.fmod 4)]).length ≤ 20
  rcases dg_cases ((n.fdiv 4).fmod 4) with h | h | h | h | h <;> rcases dg_cases (n.fmod 4) with g | g | g | g | g <;> rw [h, g] <;> decide +kernel
theorem fld_add_len (n : Int) : (fldT 2 n).length + (Str.ofString "/spot.py").length ≤ sizeLine := by
  have := fld_len n
  have h : (Str.ofString "/spot.py").length = 8 := by decide
  rw [sizeLine_eq]
  omega

theorem fileT_t {k : Bool} {i l : Int} {t : Tok} (hk : k = true) (e : i = l + 1) : OptsAre [.str (fldT 2 (i - 1) ++ Str.ofString "/spot.py") t] [fileT k l] := by
  subst hk
  rw [e, show l + 1 - 1 = l by omega]
  exact .some _ _ .nil
theorem fileT_f {k : Bool} {l : Int} (hk : k = false) : OptsAre [.none] [fileT k l] := by
  subst hk
  exact .none .nil
theorem one_sub {p : Int} (p0 : 0 ≤ p) (p1 : p < 64) : Float64.sub (Float64.ofInt 1) (tdiv p 64) = tdiv (64 - p) 64 := by
  rw [ofInt_tdiv, tdiv_eq (a := 1) (c := 64) (d := ((64 : Nat) : Int)) (by decide) (by decide) (by decide)]
  exact tdiv_sub (j := 6) rfl (by decide) (by decide) (small (by omega))
theorem flip_sub {l : Int} (l0 : 0 ≤ l) (l1 : l < 16) : Float64.sub (tdiv 17 16) (tdiv (l + 1) 16) = tdiv (15 - l + 1) 16 := by
  rw [show (15 : Int) - l + 1 = 17 - (l + 1) by omega]
  exact tdiv_sub (d := 16) (j := 4) rfl (by decide) (by decide) (small (by omega))
theorem turn_add {q tn : Int} (q0 : 0 ≤ q) (q1 : q ≤ 64) (t0 : 0 ≤ tn) (t1 : tn < 64) : Float64.add (tdiv q 64) (tdiv tn 64) = tdiv (q + tn) 64 :=
  tdiv_add (d := 64) (j := 6) rfl (by decide) (small (by omega)) (small (by omega))
theorem c_paint (w : World) {x : UInt64} {N l s : Int} (t1 t2 t3 : Nat) (z1 : t1 ≠ 0) (z2 : t2 ≠ 0) (z3 : t3 ≠ 0) (hx : x = tdiv N 64) (h0 : 0 ≤ N) (h1 : N < 128) (l0 : 0 ≤ l) (l1 : l < 16) (s0 : 1 ≤ s) (s1 : s ≤ 4) :
    CtrT w 104 1 [.float x t1, .float (tdiv s 4) t2, .float (tdiv (l + 1) 16) t3] (fun _ => True) (Out3 (col (N % 64) s l 0, col (N % 64) s l 64, col (N % 64) s l 128)) := by
  subst hx
  rw [← paint h0 h1 l0 l1 s0 s1]
  have h6 := six_of h0 h1
  refine c_rgb w t1 t2 t3 z1 z2 z3 ?_ ?_ ?_ (by omega) (by omega)
  · rw [show (0 : UInt64) = tdiv 0 ((4 : Nat) : Int) by decide +kernel, show (4 : Int) = ((4 : Nat) : Int) from rfl, tdiv_cmp (j := 2) rfl (by decide) (small (by omega)) (by decide)]
    rw [show compare s 0 = .gt from by have q1 : ¬ s < 0 := by omega
                                       have q2 : ¬ s = 0 := by omega
                                       simp [compare, compareOfLessAndEq, q1, q2]]
    rfl
  · rw [h6]; exact tdiv_finite (j := 6) rfl (by decide) (small (by omega))
  · rw [h6]; exact toInt_tdiv (j := 6) rfl (by decide) (small (by omega)) (by omega)
theorem c_back (w : World) {p l s : Int} (t1 t2 t3 : Nat) (z1 : t1 ≠ 0) (z2 : t2 ≠ 0) (z3 : t3 ≠ 0) (h : SpotOk p l s) : CtrT w 90 1 [.float (col p s l 0) t1, .float (col p s l 64) t2, .float (col p s l 128) t3] (fun _ => True) (fun tl r => ∃ x, Out3 (tdiv p 64, tdiv ((l + 1) * (8 - s)) 128, x) tl r) := by
  obtain ⟨x, hx⟩ := hls_col h
  intro mean mg mb dp un gd cn cs a ccd cl outer A₀ base h₀ L m s Q E B F X T hk hpre hd hu htk hret
  exact c_hls w t1 t2 t3 z1 z2 z3 hx mean mg mb dp un gd cn cs a ccd cl outer A₀ base h₀ L m s Q E B F X T hk hpre hd hu htk fun r tl h' tk' k1 k2 ho => hret r tl h' tk' k1 k2 ⟨x, ho⟩

theorem col_same {s l : Int} (p c : Int) (h3 : 1 ≤ s) (h4 : s ≤ 4) (h5 : 0 ≤ l) (h6 : l < 16) : Float64.cmp (col p s l c) (col p s l c) = some .eq := by
  have h := num_range p c h3 h4 h5 h6
  exact tdiv_same (a := num p s l c) (d := 2048) (j := 11) rfl (by decide) (small (by omega))
end Mine
open PySem PySem.W PyProof.Rows
set_option Elab.async false
namespace Mine
theorem w_clear_T0 : True := by
  w_top off
  k_with_none
  k_with "callWith" => (k_here; (with_reducible show wpAny _ _ (callWith _ (Value.builtin _) (_ :: _) (backTo _ (starEach (_ :: _) _)) []) _ _ _); (with_reducible refine' PyProof.Rows.callWith_method1 ?_ ?he ?hp); (case he => k_dflt rfl); (case hp => k_dflt rfl))
  k_with "callWith" => (k_here; (with_reducible show wpAny _ _ (callWith _ (Value.builtin _) [] (backTo _ (starEach (_ :: _) _)) []) _ _ _); (with_reducible refine' PyProof.Rows.callWith_builtin1 ?_ ?he ?hp); (case he => k_dflt rfl); (case hp => k_dflt rfl))
  trivial
theorem w_words_T0_1 : True := by
  k_with "execs cons" => (k_here; k_dflt (refine' execs_tok ?hn ?_; (case hn => ((try dsimp only); omega)); k_whole))
  k_with "TokNext" => (intro tk9 hk9; (try dsimp only))
  k_with "call ref" => (k_here; k_dflt (refine' CtrT.use3 (c_col _ _ _ _ (by assumption) (by assumption) (by assumption) (by assumption)) ?k1 ?k2 ?k3 ?k4 ?k5 ?kK ?kp ?kd ?ku ?kt ?_; (case k1 => k_asm); (case k2 => k_asm); (case k3 => k_asm); (case k4 => k_asm); (case k5 => k_asm); (case kK => exact rfl); (case kp => (exact True.intro)); (case kd => ktr_room); (case ku => ktr_units); (case kt => ((try dsimp only); omega)); k_whole; intro D9 a9 b9 c9 e9 h9 tk9 za9 zb9 zc9 hk9 F9 N9 hl9; (try simp only [and_true, AllNe] at hl9); (try dsimp only)))
  trivial
section
variable {w : World} {mean : ExcName → Option Value} {mg mb : Str → Option Value} {h₀ : Heap} {L fa : Addr} {cd : Value} {m : Str → Option Value} {news : List (Addr × Obj)} {s : Shared} {Q : Flow → Shared → Prop} {E : Value → Shared → Prop} {st : Stmt} {sc : Scope}
set_option maxRecDepth 100000 in
set_option maxHeartbeats 8000000 in
theorem st0 (hst : turnSt 0 = some st) (hsc : lawScope = some sc) (B : Below callerA h₀ [] h₀) (X : (Mine.hd.heap_1 w.params).In h₀) (T : Top Mine.hd.view_1 (looseW Mine.hd.view_1 []) mean mg mb h₀) (F : Fr h₀ L s.heap m) (N : News h₀ L s.heap news) (htk : 1 ≤ s.toks) {p l sh : Int} {t1 t2 t3 : Tok} (h1 : m (Str.ofString "place") = some (.int p t1)) (h2 : m (Str.ofString "share") = some (.int sh t2)) (h3 : m (Str.ofString "level") = some (.int l t3)) (s1 : 1 ≤ sh) (s2 : sh ≤ 4) (l1 : 0 ≤ l) (l2 : l < 16)
    (ret : ∀ h' tk' (ta tb tc : Nat), ta ≠ 0 → tb ≠ 0 → tc ≠ 0 → Fr h₀ L h' (fun y => if y = (Str.ofString "blue") then some (.float (col p sh l 128) tc) else if y = (Str.ofString "green") then some (.float (col p sh l 64) tb) else if y = (Str.ofString "red") then some (.float (col p sh l 0) ta) else m y) → News h₀ L h' news → Q .next { s with heap := h', toks := tk' }) :
    wpAny (model PySem.Challenge.rw_pg0115_01.row.prog w) (callerA.deeper (envOfC (Str.ofString "law") sc L fa cd)) (exec st (envOfC (Str.ofString "law") sc L fa cd)) Q E s := by
  revert X
  k_fill
  intro X
  cases hst
  cases hsc
  (try dsimp only)
  have F := fr_know3 F h1 h2 h3
  k_steps
  (rename Fr _ _ _ _ => kF)
  (rename News _ _ _ _ => kN)
  (try dsimp only)
  refine ret _ _ _ _ _ ?_ ?_ ?_ (by (try simp only [know_pt h1, know_pt h2, know_pt h3] at kF); exact kF) (news_sub kN (fun _ hp => by repeat (first | exact hp | refine List.Mem.tail _ ?_))) <;> first | assumption | omega
end
end Mine
open PySem PySem.W PyProof.Rows
set_option Elab.async false
namespace Mine
theorem w_clear_T1 : True := by
  w_top off
  k_with_none
  k_with "callWith" => (k_here; (with_reducible show wpAny _ _ (callWith _ (Value.builtin _) (_ :: _) (backTo _ (starEach (_ :: _) _)) []) _ _ _); (with_reducible refine' PyProof.Rows.callWith_method1 ?_ ?he ?hp); (case he => k_dflt rfl); (case hp => k_dflt rfl))
  k_with "callWith" => (k_here; (with_reducible show wpAny _ _ (callWith _ (Value.builtin _) [] (backTo _ (starEach (_ :: _) _)) []) _ _ _); (with_reducible refine' PyProof.Rows.callWith_builtin1 ?_ ?he ?hp); (case he => k_dflt rfl); (case hp => k_dflt rfl))
  trivial
theorem w_words_T1_1 : True := by
  k_with "execs cons" => (k_here; k_dflt (refine' execs_tok ?hn ?_; (case hn => ((try dsimp only); omega)); k_whole))
  k_with "TokNext" => (intro tk9 hk9; (try dsimp only))
  k_with "call ref" => (k_here; k_dflt (refine' CtrT.use3 (c_hsv _ _ _ _ (by assumption) (by assumption) (by assumption) (hsv_col (by assumption))) ?k1 ?k2 ?k3 ?k4 ?k5 ?kK ?kp ?kd ?ku ?kt ?_; (case k1 => k_asm); (case k2 => k_asm); (case k3 => k_asm); (case k4 => k_asm); (case k5 => k_asm); (case kK => exact rfl); (case kp => (exact True.intro)); (case kd => ktr_room); (case ku => ktr_units); (case kt => ((try dsimp only); omega)); k_whole; intro D9 a9 b9 c9 e9 h9 tk9 za9 zb9 zc9 hk9 F9 N9 hl9; (try simp only [and_true, AllNe] at hl9); (try dsimp only)))
  k_with "compareOp NotEq ref ref" => (k_here; k_dflt (refine' ne_floats3 ?ka ?kb ?t1 ?t2 ?t3 ?u1 ?u2 ?u3 ?c1 ?c2 ?c3 ?kn ?ku ?_; (case ka => exact News.get (by k_asm) (by k_mem)); (case kb => exact News.get (by k_asm) (by k_mem)); (case t1 => first | assumption | ((try dsimp only); omega)); (case t2 => first | assumption | ((try dsimp only); omega)); (case t3 => first | assumption | ((try dsimp only); omega)); (case u1 => first | assumption | ((try dsimp only); omega)); (case u2 => first | assumption | ((try dsimp only); omega)); (case u3 => first | assumption | ((try dsimp only); omega)); (case c1 => assumption); (case c2 => assumption); (case c3 => assumption); (case kn => exact noneBooked (Frag.In.keeps (by k_asm) (Fr.keep (by k_asm))) (Top.keeps (by k_asm) (Fr.keep (by k_asm)))); (case ku => ktr_units); k_whole))
  trivial
section
variable {w : World} {mean : ExcName → Option Value} {mg mb : Str → Option Value} {h₀ : Heap} {L fa : Addr} {cd : Value} {m : Str → Option Value} {news : List (Addr × Obj)} {s : Shared} {Q : Flow → Shared → Prop} {E : Value → Shared → Prop} {st : Stmt} {sc : Scope}
set_option maxRecDepth 100000 in
set_option maxHeartbeats 8000000 in
theorem st1 (hst : turnSt 1 = some st) (hsc : lawScope = some sc) (B : Below callerA h₀ [] h₀) (X : (Mine.hd.heap_1 w.params).In h₀) (T : Top Mine.hd.view_1 (looseW Mine.hd.view_1 []) mean mg mb h₀) (F : Fr h₀ L s.heap m) (N : News h₀ L s.heap news) (htk : 1 ≤ s.toks) {p l sh : Int} {t1 t2 t3 : Nat} (h1 : m (Str.ofString "red") = some (.float (col p sh l 0) t1)) (h2 : m (Str.ofString "green") = some (.float (col p sh l 64) t2)) (h3 : m (Str.ofString "blue") = some (.float (col p sh l 128) t3)) (k1 : t1 ≠ 0) (k2 : t2 ≠ 0) (k3 : t3 ≠ 0) (hOk : SpotOk p l sh)
    (ret : ∀ h' tk' (ta tb tc : Nat), ta ≠ 0 → tb ≠ 0 → tc ≠ 0 → Fr h₀ L h' (fun y => if y = (Str.ofString "value") then some (.float (tdiv (l + 1) 16) tc) else if y = (Str.ofString "told") then some (.float (tdiv sh 4) tb) else if y = (Str.ofString "hue") then some (.float (tdiv p 64) ta) else m y) → News h₀ L h' news → Q .next { s with heap := h', toks := tk' }) :
    wpAny (model PySem.Challenge.rw_pg0115_01.row.prog w) (callerA.deeper (envOfC (Str.ofString "law") sc L fa cd)) (exec st (envOfC (Str.ofString "law") sc L fa cd)) Q E s := by
  revert X
  k_fill
  intro X
  cases hst
  cases hsc
  (try dsimp only)
  have F := fr_know3 F h1 h2 h3
  k_steps
  (rename Fr _ _ _ _ => kF)
  (rename News _ _ _ _ => kN)
  (try dsimp only)
  refine ret _ _ _ _ _ ?_ ?_ ?_ (by (try simp only [know_pt h1, know_pt h2, know_pt h3] at kF); exact kF) (news_sub kN (fun _ hp => by repeat (first | exact hp | refine List.Mem.tail _ ?_))) <;> first | assumption | omega
set_option maxRecDepth 100000 in
set_option maxHeartbeats 8000000 in
theorem st2 (hst : turnSt 2 = some st) (hsc : lawScope = some sc) (B : Below callerA h₀ [] h₀) (X : (Mine.hd.heap_1 w.params).In h₀) (T : Top Mine.hd.view_1 (looseW Mine.hd.view_1 []) mean mg mb h₀) (F : Fr h₀ L s.heap m) (N : News h₀ L s.heap news) (htk : 1 ≤ s.toks) {p l sh : Int} {t1 t2 t3 : Nat} {t4 t5 t6 : Tok} (h1 : m (Str.ofString "hue") = some (.float (tdiv p 64) t1)) (h2 : m (Str.ofString "told") = some (.float (tdiv sh 4) t2)) (h3 : m (Str.ofString "value") = some (.float (tdiv (l + 1) 16) t3)) (k1 : t1 ≠ 0) (k2 : t2 ≠ 0) (k3 : t3 ≠ 0)
    (h4 : m (Str.ofString "place") = some (.int p t4)) (h5 : m (Str.ofString "share") = some (.int sh t5)) (h6 : m (Str.ofString "level") = some (.int l t6)) (hOk : SpotOk p l sh)
    (ret : ∀ h' tk', Fr h₀ L h' m → News h₀ L h' news → Q .next { s with heap := h', toks := tk' }) :
    wpAny (model PySem.Challenge.rw_pg0115_01.row.prog w) (callerA.deeper (envOfC (Str.ofString "law") sc L fa cd)) (exec st (envOfC (Str.ofString "law") sc L fa cd)) Q E s := by
  obtain ⟨p0, p1, l0, l1, s0, s1⟩ := hOk
  have y1 := tdiv_ni (a := p) (d := 64) (j := 6) rfl (by decide) (small (by omega))
  have y2 := tdiv_ni (a := sh) (d := 4) (j := 2) rfl (by decide) (small (by omega))
  have y3 := tdiv_ni (a := l + 1) (d := 16) (j := 4) rfl (by decide) (small (by omega))
  have c1 := tdiv_same (a := p) (d := 64) (j := 6) rfl (by decide) (small (by omega))
  have c2 := tdiv_same (a := sh) (d := 4) (j := 2) rfl (by decide) (small (by omega))
  have c3 := tdiv_same (a := l + 1) (d := 16) (j := 4) rfl (by decide) (small (by omega))
  revert X
  k_fill
  intro X
  cases hst
  cases hsc
  (try dsimp only)
  have F := fr_know6 F h1 h2 h3 h4 h5 h6
  k_steps
  (rename Fr _ _ _ _ => kF)
  (rename News _ _ _ _ => kN)
  (try dsimp only)
  exact ret _ _ (by (try simp only [know_pt h1, know_pt h2, know_pt h3, know_pt h4, know_pt h5, know_pt h6] at kF); exact kF) (news_sub kN (fun _ hp => by repeat (first | exact hp | refine List.Mem.tail _ ?_)))
end
end Mine
open PySem PySem.W PyProof.Rows
set_option Elab.async false
namespace Mine
theorem w_clear_T3 : True := by
  w_top off
  k_with_none
  k_with "callWith" => (k_here; (with_reducible show wpAny _ _ (callWith _ (Value.builtin _) (_ :: _) (backTo _ (starEach (_ :: _) _)) []) _ _ _); (with_reducible refine' PyProof.Rows.callWith_method1 ?_ ?he ?hp); (case he => k_dflt rfl); (case hp => k_dflt rfl))
  k_with "callWith" => (k_here; (with_reducible show wpAny _ _ (callWith _ (Value.builtin _) [] (backTo _ (starEach (_ :: _) _)) []) _ _ _); (with_reducible refine' PyProof.Rows.callWith_builtin1 ?_ ?he ?hp); (case he => k_dflt rfl); (case hp => k_dflt rfl))
  trivial
theorem w_words_T3_1 : True := by
  k_with "execs cons" => (k_here; k_dflt (refine' execs_tok ?hn ?_; (case hn => ((try dsimp only); omega)); k_whole))
  k_with "TokNext" => (intro tk9 hk9; (try dsimp only))
  k_with "call ref" => (k_here; k_dflt (refine' Ctr.useS (c_mod3 _ _ _ _) ?k1 ?k2 ?k3 ?k4 ?k5 ?kK ?kp ?kd ?ku ?_; (case k1 => k_asm); (case k2 => k_asm); (case k3 => k_asm); (case k4 => k_asm); (case k5 => k_asm); (case kK => exact rfl); (case kp => (exact True.intro)); (case kd => ktr_room); (case ku => ktr_units); k_whole; intro a9 h9 tk9 F9 N9; (try dsimp only)))
  k_with "call ref" => (k_here; k_dflt (refine' Ctr.useS (c_fld2 _ _ _ _) ?k1 ?k2 ?k3 ?k4 ?k5 ?kK ?kp ?kd ?ku ?_; (case k1 => k_asm); (case k2 => k_asm); (case k3 => k_asm); (case k4 => k_asm); (case k5 => k_asm); (case kK => exact rfl); (case kp => (exact True.intro)); (case kd => ktr_room); (case ku => ktr_units); k_whole; intro a9 h9 tk9 F9 N9; (try dsimp only)))
  k_with "call builtin:list.append" => (k_here; k_dflt (refine' append_in (own := []) ?kF ?kN ?ko ?kr ?_ ?ks; (case kF => k_asm); (case kN => k_asm); (case ko => exact fun _ h => nomatch h); (case kr => assumption); (case ks => (rw [sizeLine_eq]; omega)); k_whole; intro h9 F9 N9; (simp only [List.nil_append] at N9)))
  trivial
section
variable {w : World} {mean : ExcName → Option Value} {mg mb : Str → Option Value} {h₀ : Heap} {L fa : Addr} {cd : Value} {m : Str → Option Value} {news : List (Addr × Obj)} {s : Shared} {Q : Flow → Shared → Prop} {E : Value → Shared → Prop} {st : Stmt} {sc : Scope}
set_option maxRecDepth 100000 in
set_option maxHeartbeats 8000000 in
theorem st3 (hst : turnSt 3 = some st) (hsc : lawScope = some sc) (B : Below callerA h₀ [] h₀) (X : (Mine.hd.heap_1 w.params).In h₀) (T : Top Mine.hd.view_1 (looseW Mine.hd.view_1 []) mean mg mb h₀) (F : Fr h₀ L s.heap m) (N : News h₀ L s.heap news) (htk : 1 ≤ s.toks) {p : Int} {t1 : Nat} {lm : Addr} {vs : List Value} {e : Nat} {rest : List (Addr × Obj)} (h1 : m (Str.ofString "hue") = some (.float (tdiv p 64) t1)) (h2 : m (Str.ofString "modules") = some (.ref lm)) (p0 : 0 ≤ p) (p1 : p < 64)
    (hl : vs.length ≤ 15) (hn : news = (lm, W.listOf vs.toArray e) :: rest) (hne : ∀ q ∈ rest, q.1 ≠ lm)
    (ret : ∀ h' tk' t e', Fr h₀ L h' m → News h₀ L h' ((lm, W.listOf (vs ++ [Value.str (modT 3 p) t]).toArray e') :: rest) → Q .next { s with heap := h', toks := tk' }) :
    wpAny (model PySem.Challenge.rw_pg0115_01.row.prog w) (callerA.deeper (envOfC (Str.ofString "law") sc L fa cd)) (exec st (envOfC (Str.ofString "law") sc L fa cd)) Q E s := by
  subst hn
  have y2 := hue_fin p0 p1
  have y3 := hue_int p0 p1
  have y4 := fin_nan y2
  have y5 := fin_inf y2
  revert X
  k_fill
  intro X
  cases hst
  cases hsc
  (try dsimp only)
  have F := fr_know2 F h1 h2
  k_steps
  all_goals (try (exfalso; simp only [*, reduceCtorEq] at y4; done))
  all_goals (try (exfalso; simp only [*, reduceCtorEq] at y5; done))
  (rename Fr _ _ _ _ => kF)
  (rename News _ _ _ _ => kN)
  (try dsimp only)
  rw [y3] at *
  exact ret _ _ _ _ (by (try simp only [know_pt h1, know_pt h2] at kF); exact kF) kN
set_option maxRecDepth 100000 in
set_option maxHeartbeats 8000000 in
theorem st12 (hst : turnSt 12 = some st) (hsc : lawScope = some sc) (B : Below callerA h₀ [] h₀) (X : (Mine.hd.heap_1 w.params).In h₀) (T : Top Mine.hd.view_1 (looseW Mine.hd.view_1 []) mean mg mb h₀) (F : Fr h₀ L s.heap m) (N : News h₀ L s.heap news) (htk : 1 ≤ s.toks) {p : Int} {t1 : Nat} {lm : Addr} {vs : List Value} {e : Nat} {rest : List (Addr × Obj)} (h1 : m (Str.ofString "far_hue") = some (.float (tdiv p 64) t1)) (h2 : m (Str.ofString "far_modules") = some (.ref lm)) (p0 : 0 ≤ p) (p1 : p < 64)
    (hl : vs.length ≤ 15) (hn : news = (lm, W.listOf vs.toArray e) :: rest) (hne : ∀ q ∈ rest, q.1 ≠ lm)
    (ret : ∀ h' tk' t e', Fr h₀ L h' m → News h₀ L h' ((lm, W.listOf (vs ++ [Value.str (modT 3 p) t]).toArray e') :: rest) → Q .next { s with heap := h', toks := tk' }) :
    wpAny (model PySem.Challenge.rw_pg0115_01.row.prog w) (callerA.deeper (envOfC (Str.ofString "law") sc L fa cd)) (exec st (envOfC (Str.ofString "law") sc L fa cd)) Q E s := by
  subst hn
  have y2 := hue_fin p0 p1
  have y3 := hue_int p0 p1
  have y4 := fin_nan y2
  have y5 := fin_inf y2
  revert X
  k_fill
  intro X
  cases hst
  cases hsc
  (try dsimp only)
  have F := fr_know2 F h1 h2
  k_steps
  all_goals (try (exfalso; simp only [*, reduceCtorEq] at y4; done))
  all_goals (try (exfalso; simp only [*, reduceCtorEq] at y5; done))
  (rename Fr _ _ _ _ => kF)
  (rename News _ _ _ _ => kN)
  (try dsimp only)
  rw [y3] at *
  exact ret _ _ _ _ (by (try simp only [know_pt h1, know_pt h2] at kF); exact kF) kN
end
end Mine
open PySem PySem.W PyProof.Rows
set_option Elab.async false
namespace Mine
theorem w_clear_T4 : True := by
  w_top off
  k_with_none
  k_with "callWith" => (k_here; (with_reducible show wpAny _ _ (callWith _ (Value.builtin _) (_ :: _) (backTo _ (starEach (_ :: _) _)) []) _ _ _); (with_reducible refine' PyProof.Rows.callWith_method1 ?_ ?he ?hp); (case he => k_dflt rfl); (case hp => k_dflt rfl))
  k_with "callWith" => (k_here; (with_reducible show wpAny _ _ (callWith _ (Value.builtin _) [] (backTo _ (starEach (_ :: _) _)) []) _ _ _); (with_reducible refine' PyProof.Rows.callWith_builtin1 ?_ ?he ?hp); (case he => k_dflt rfl); (case hp => k_dflt rfl))
  trivial
theorem w_words_T4_1 : True := by
  k_with "execs cons" => (k_here; k_dflt (refine' execs_tok ?hn ?_; (case hn => ((try dsimp only); omega)); k_whole))
  k_with "TokNext" => (intro tk9 hk9; (try dsimp only))
  k_with "call ref" => (k_here; k_dflt (refine' Ctr.useS (c_mod3 _ _ _ _) ?k1 ?k2 ?k3 ?k4 ?k5 ?kK ?kp ?kd ?ku ?_; (case k1 => k_asm); (case k2 => k_asm); (case k3 => k_asm); (case k4 => k_asm); (case k5 => k_asm); (case kK => exact rfl); (case kp => (exact True.intro)); (case kd => ktr_room); (case ku => ktr_units); k_whole; intro a9 h9 tk9 F9 N9; (try dsimp only)))
  k_with "call ref" => (k_here; k_dflt (refine' Ctr.useS (c_fld2 _ _ _ _) ?k1 ?k2 ?k3 ?k4 ?k5 ?kK ?kp ?kd ?ku ?_; (case k1 => k_asm); (case k2 => k_asm); (case k3 => k_asm); (case k4 => k_asm); (case k5 => k_asm); (case kK => exact rfl); (case kp => (exact True.intro)); (case kd => ktr_room); (case ku => ktr_units); k_whole; intro a9 h9 tk9 F9 N9; (try dsimp only)))
  k_with "call builtin:list.append" => (k_here; k_dflt (refine' append_in (own := []) ?kF ?kN ?ko ?kr ?_ ?ks; (case kF => k_asm); (case kN => k_asm); (case ko => exact fun _ h => nomatch h); (case kr => assumption); (case ks => (rw [sizeLine_eq]; omega)); k_whole; intro h9 F9 N9; (simp only [List.nil_append] at N9)))
  k_with "binaryOp Add str str" => (k_here; k_dflt (refine' PyProof.Rows.add_str ?_ ?ks; (case ks => exact fld_add_len _); k_whole; intro t9 tk9))
  trivial
section
variable {w : World} {mean : ExcName → Option Value} {mg mb : Str → Option Value} {h₀ : Heap} {L fa : Addr} {cd : Value} {m : Str → Option Value} {news : List (Addr × Obj)} {s : Shared} {Q : Flow → Shared → Prop} {E : Value → Shared → Prop} {st : Stmt} {sc : Scope}
set_option maxRecDepth 100000 in
set_option maxHeartbeats 8000000 in
theorem st4 (hst : turnSt 4 = some st) (hsc : lawScope = some sc) (B : Below callerA h₀ [] h₀) (X : (Mine.hd.heap_1 w.params).In h₀) (T : Top Mine.hd.view_1 (looseW Mine.hd.view_1 []) mean mg mb h₀) (F : Fr h₀ L s.heap m) (N : News h₀ L s.heap news) (htk : 1 ≤ s.toks) {l : Int} {k : Bool} {t1 : Nat} {lm : Addr} {vs : List Value} {e : Nat} {rest : List (Addr × Obj)} (h1 : m (Str.ofString "value") = some (.float (tdiv (l + 1) 16) t1)) (h2 : m (Str.ofString "files") = some (.ref lm)) (h3 : m (Str.ofString "known") = some (.bool k)) (l0 : 0 ≤ l) (l1 : l < 16)
    (hl : vs.length ≤ 15) (hn : news = (lm, W.listOf vs.toArray e) :: rest) (hne : ∀ q ∈ rest, q.1 ≠ lm)
    (ret : ∀ h' tk' v e', OptsAre [v] [fileT k l] → Fr h₀ L h' m → News h₀ L h' ((lm, W.listOf (vs ++ [v]).toArray e') :: rest) → Q .next { s with heap := h', toks := tk' }) :
    wpAny (model PySem.Challenge.rw_pg0115_01.row.prog w) (callerA.deeper (envOfC (Str.ofString "law") sc L fa cd)) (exec st (envOfC (Str.ofString "law") sc L fa cd)) Q E s := by
  subst hn
  have y2 := val_fin (k := l + 1) (by omega) (by omega)
  have y3 := val_int (k := l + 1) (by omega) (by omega)
  have y4 := fin_nan y2
  have y5 := fin_inf y2
  revert X
  k_fill
  intro X
  cases hst
  cases hsc
  (try dsimp only)
  have F := fr_know3 F h1 h2 h3
  k_steps
  all_goals (try (exfalso; simp only [*, reduceCtorEq] at y4; done))
  all_goals (try (exfalso; simp only [*, reduceCtorEq] at y5; done))
  all_goals ((rename Fr _ _ _ _ => kF); (rename News _ _ _ _ => kN); (try dsimp only); first | exact ret _ _ _ _ (fileT_t (by assumption) y3) (by (try simp only [know_pt h1, know_pt h2, know_pt h3] at kF); exact kF) kN | exact ret _ _ _ _ (fileT_f (by assumption)) (by (try simp only [know_pt h1, know_pt h2, know_pt h3] at kF); exact kF) kN)
end
end Mine
open PySem PySem.W PyProof.Rows
set_option Elab.async false
namespace Mine
theorem w_clear_T5 : True := by
  w_top off
  k_with_none
  k_with "callWith" => (k_here; (with_reducible show wpAny _ _ (callWith _ (Value.builtin _) (_ :: _) (backTo _ (starEach (_ :: _) _)) []) _ _ _); (with_reducible refine' PyProof.Rows.callWith_method1 ?_ ?he ?hp); (case he => k_dflt rfl); (case hp => k_dflt rfl))
  k_with "callWith" => (k_here; (with_reducible show wpAny _ _ (callWith _ (Value.builtin _) [] (backTo _ (starEach (_ :: _) _)) []) _ _ _); (with_reducible refine' PyProof.Rows.callWith_builtin1 ?_ ?he ?hp); (case he => k_dflt rfl); (case hp => k_dflt rfl))
  trivial
theorem w_words_T5_1 : True := by
  k_with "execs cons" => (k_here; k_dflt (refine' execs_tok ?hn ?_; (case hn => ((try dsimp only); omega)); k_whole))
  k_with "TokNext" => (intro tk9 hk9; (try dsimp only))
  trivial
section
variable {w : World} {mean : ExcName → Option Value} {mg mb : Str → Option Value} {h₀ : Heap} {L fa : Addr} {cd : Value} {m : Str → Option Value} {news : List (Addr × Obj)} {s : Shared} {Q : Flow → Shared → Prop} {E : Value → Shared → Prop} {st : Stmt} {sc : Scope}
set_option maxRecDepth 100000 in
set_option maxHeartbeats 8000000 in
theorem st5 (hst : turnSt 5 = some st) (hsc : lawScope = some sc) (B : Below callerA h₀ [] h₀) (X : (Mine.hd.heap_1 w.params).In h₀) (T : Top Mine.hd.view_1 (looseW Mine.hd.view_1 []) mean mg mb h₀) (F : Fr h₀ L s.heap m) (N : News h₀ L s.heap news) (htk : 1 ≤ s.toks) {p : Int} {b : Bool} {t1 : Nat} {t2 : Tok} {oM : Obj} (h1 : m (Str.ofString "hue") = some (.float (tdiv p 64) t1)) (h2 : m (Str.ofString "place") = some (.int p t2)) (p0 : 0 ≤ p) (p1 : p < 64) (k1 : t1 ≠ 0)
    (hm : (L + 1 + 1 + 1, oM) ∈ news) (hd : oM.data = .cell (some (.bool b)))
    (ret : ∀ h' tk' (ta : Nat) (tp : Tok), ta ≠ 0 → Fr h₀ L h' (fun y => if y = (Str.ofString "place") then some (.int (if b then -p else p) tp) else if y = (Str.ofString "hue") then some (.float (tdiv (if b then 64 - p else p) 64) ta) else m y) → News h₀ L h' news → Q .next { s with heap := h', toks := tk' }) :
    wpAny (model PySem.Challenge.rw_pg0115_01.row.prog w) (callerA.deeper (envOfC (Str.ofString "law") sc L fa cd)) (exec st (envOfC (Str.ofString "law") sc L fa cd)) Q E s := by
  have N : News h₀ L s.heap ((L + 1 + 1 + 1, oM) :: news) := fun q hq => by
    rcases List.mem_cons.mp hq with rfl | hq
    · exact N _ hm
    · exact N _ hq
  revert X
  k_fill
  intro X
  cases hst
  cases hsc
  (try dsimp only)
  have F := fr_know2 F h2 h1
  cases b
  · k_steps
    (rename Fr _ _ _ _ => kF); (rename News _ _ _ _ => kN); (try dsimp only)
    exact ret _ _ _ _ k1 kF (news_sub kN (fun _ hp => by repeat (first | exact hp | refine List.Mem.tail _ ?_)))
  · k_steps
    (rename Fr _ _ _ _ => kF); (rename News _ _ _ _ => kN); (try dsimp only)
    rw [one_sub p0 p1] at kF
    refine ret _ _ _ _ ?_ (by (try simp only [know_pt h2, know_pt h1] at kF); exact kF) (news_sub kN (fun _ hp => by repeat (first | exact hp | refine List.Mem.tail _ ?_)))
    omega
set_option maxRecDepth 100000 in
set_option maxHeartbeats 8000000 in
theorem st6 (hst : turnSt 6 = some st) (hsc : lawScope = some sc) (B : Below callerA h₀ [] h₀) (X : (Mine.hd.heap_1 w.params).In h₀) (T : Top Mine.hd.view_1 (looseW Mine.hd.view_1 []) mean mg mb h₀) (F : Fr h₀ L s.heap m) (N : News h₀ L s.heap news) (htk : 1 ≤ s.toks) {l : Int} {b : Bool} {t1 : Nat} {t2 : Tok} {oM : Obj} (h1 : m (Str.ofString "value") = some (.float (tdiv (l + 1) 16) t1)) (h2 : m (Str.ofString "level") = some (.int l t2)) (l0 : 0 ≤ l) (l1 : l < 16) (k1 : t1 ≠ 0)
    (hm : (L + 1 + 1 + 1 + 1, oM) ∈ news) (hd : oM.data = .cell (some (.bool b)))
    (ret : ∀ h' tk' (ta : Nat) (tp : Tok), ta ≠ 0 → Fr h₀ L h' (fun y => if y = (Str.ofString "level") then some (.int (moveL b l) tp) else if y = (Str.ofString "value") then some (.float (tdiv (moveL b l + 1) 16) ta) else m y) → News h₀ L h' news → Q .next { s with heap := h', toks := tk' }) :
    wpAny (model PySem.Challenge.rw_pg0115_01.row.prog w) (callerA.deeper (envOfC (Str.ofString "law") sc L fa cd)) (exec st (envOfC (Str.ofString "law") sc L fa cd)) Q E s := by
  have N : News h₀ L s.heap ((L + 1 + 1 + 1 + 1, oM) :: news) := fun q hq => by
    rcases List.mem_cons.mp hq with rfl | hq
    · exact N _ hm
    · exact N _ hq
  have y1 := tdiv_ni (a := 17) (d := 16) (j := 4) rfl (by decide) (by decide)
  revert X
  k_fill
  intro X
  cases hst
  cases hsc
  (try dsimp only)
  have F := fr_know2 F h2 h1
  cases b
  · k_steps
    (rename Fr _ _ _ _ => kF); (rename News _ _ _ _ => kN); (try dsimp only)
    exact ret _ _ _ _ k1 kF (news_sub kN (fun _ hp => by repeat (first | exact hp | refine List.Mem.tail _ ?_)))
  · k_steps
    (rename Fr _ _ _ _ => kF); (rename News _ _ _ _ => kN); (try dsimp only)
    have e := flip_sub l0 l1
    unfold tdiv at e
    refine ret _ _ _ _ ?_ (by first | (rw [e] at kF; simp only [know_pt h2, know_pt h1] at kF; exact kF) | (erw [flip_sub l0 l1] at kF; simp only [know_pt h2, know_pt h1] at kF; exact kF)) (news_sub kN (fun _ hp => by repeat (first | exact hp | refine List.Mem.tail _ ?_)))
    omega
set_option maxRecDepth 100000 in
set_option maxHeartbeats 8000000 in
theorem st7 (hst : turnSt 7 = some st) (hsc : lawScope = some sc) (B : Below callerA h₀ [] h₀) (X : (Mine.hd.heap_1 w.params).In h₀) (T : Top Mine.hd.view_1 (looseW Mine.hd.view_1 []) mean mg mb h₀) (F : Fr h₀ L s.heap m) (N : News h₀ L s.heap news) (htk : 1 ≤ s.toks) {p tn : Int} {t1 t2 : Tok} {oM : Obj} (h1 : m (Str.ofString "place") = some (.int p t1)) 
    (hm : (L + 1 + 1, oM) ∈ news) (hd : oM.data = .cell (some (.int tn t2)))
    (ret : ∀ h' tk' (tp : Tok), Fr h₀ L h' (fun y => if y = (Str.ofString "place") then some (.int ((p + tn).fmod 64) tp) else m y) → News h₀ L h' news → Q .next { s with heap := h', toks := tk' }) :
    wpAny (model PySem.Challenge.rw_pg0115_01.row.prog w) (callerA.deeper (envOfC (Str.ofString "law") sc L fa cd)) (exec st (envOfC (Str.ofString "law") sc L fa cd)) Q E s := by
  have N : News h₀ L s.heap ((L + 1 + 1, oM) :: news) := fun q hq => by
    rcases List.mem_cons.mp hq with rfl | hq
    · exact N _ hm
    · exact N _ hq
  revert X
  k_fill
  intro X
  cases hst
  cases hsc
  (try dsimp only)
  have F := fr_know1 F h1
  k_steps
  (rename Fr _ _ _ _ => kF); (rename News _ _ _ _ => kN); (try dsimp only)
  exact ret _ _ _ (by (try simp only [know_pt h1] at kF); exact kF) (news_sub kN (fun _ hp => by repeat (first | exact hp | refine List.Mem.tail _ ?_)))
end
end Mine
open PySem PySem.W PyProof.Rows
set_option Elab.async false
namespace Mine
theorem w_clear_T8 : True := by
  w_top off
  k_with_none
  k_with "callWith" => (k_here; (with_reducible show wpAny _ _ (callWith _ (Value.builtin _) (_ :: _) (backTo _ (starEach (_ :: _) _)) []) _ _ _); (with_reducible refine' PyProof.Rows.callWith_method1 ?_ ?he ?hp); (case he => k_dflt rfl); (case hp => k_dflt rfl))
  k_with "callWith" => (k_here; (with_reducible show wpAny _ _ (callWith _ (Value.builtin _) [] (backTo _ (starEach (_ :: _) _)) []) _ _ _); (with_reducible refine' PyProof.Rows.callWith_builtin1 ?_ ?he ?hp); (case he => k_dflt rfl); (case hp => k_dflt rfl))
  trivial
theorem w_words_T8_1 : True := by
  k_with "execs cons" => (k_here; k_dflt (refine' execs_tok ?hn ?_; (case hn => ((try dsimp only); omega)); k_whole))
  k_with "TokNext" => (intro tk9 hk9; (try dsimp only))
  k_with "call ref" => (k_here; k_dflt (refine' CtrT.use3 (c_paint _ _ _ _ (by first | assumption | ((try dsimp only); omega)) (by first | assumption | ((try dsimp only); omega)) (by first | assumption | ((try dsimp only); omega)) (turn_add (by assumption) (by assumption) (by assumption) (by assumption)) (by omega) (by omega) (by assumption) (by assumption) (by assumption) (by assumption)) ?k1 ?k2 ?k3 ?k4 ?k5 ?kK ?kp ?kd ?ku ?kt ?_; (case k1 => k_asm); (case k2 => k_asm); (case k3 => k_asm); (case k4 => k_asm); (case k5 => k_asm); (case kK => exact rfl); (case kp => (exact True.intro)); (case kd => ktr_room); (case ku => ktr_units); (case kt => ((try dsimp only); omega)); k_whole; intro D9 a9 b9 c9 e9 h9 tk9 za9 zb9 zc9 hk9 F9 N9 hl9; (try simp only [and_true, AllNe] at hl9); (try dsimp only)))
  trivial
section
variable {w : World} {mean : ExcName → Option Value} {mg mb : Str → Option Value} {h₀ : Heap} {L fa : Addr} {cd : Value} {m : Str → Option Value} {news : List (Addr × Obj)} {s : Shared} {Q : Flow → Shared → Prop} {E : Value → Shared → Prop} {st : Stmt} {sc : Scope}
set_option maxRecDepth 100000 in
set_option maxHeartbeats 8000000 in
theorem st8 (hst : turnSt 8 = some st) (hsc : lawScope = some sc) (B : Below callerA h₀ [] h₀) (X : (Mine.hd.heap_1 w.params).In h₀) (T : Top Mine.hd.view_1 (looseW Mine.hd.view_1 []) mean mg mb h₀) (F : Fr h₀ L s.heap m) (N : News h₀ L s.heap news) (htk : 1 ≤ s.toks) {q l sh tn : Int} {t1 t2 t3 : Nat} {t4 : Tok} {oM : Obj} (h1 : m (Str.ofString "hue") = some (.float (tdiv q 64) t1)) (h2 : m (Str.ofString "told") = some (.float (tdiv sh 4) t2)) (h3 : m (Str.ofString "value") = some (.float (tdiv (l + 1) 16) t3)) (k1 : t1 ≠ 0) (k2 : t2 ≠ 0) (k3 : t3 ≠ 0)
    (q0 : 0 ≤ q) (q1 : q ≤ 64) (n0 : 0 ≤ tn) (n1 : tn < 64) (l0 : 0 ≤ l) (l1 : l < 16) (s0 : 1 ≤ sh) (s1 : sh ≤ 4) (hm : (L + 1 + 1, oM) ∈ news) (hd : oM.data = .cell (some (.int tn t4)))
    (ret : ∀ h' tk' D n (ta tb tc : Nat), ta ≠ 0 → tb ≠ 0 → tc ≠ 0 → Fr h₀ L h' (fun y => if y = (Str.ofString "painted") then some (.ref D) else m y) → News h₀ L h' ((D, tupObj [.float (col ((q + tn) % 64) sh l 0) ta, .float (col ((q + tn) % 64) sh l 64) tb, .float (col ((q + tn) % 64) sh l 128) tc] n) :: news) → Q .next { s with heap := h', toks := tk' }) :
    wpAny (model PySem.Challenge.rw_pg0115_01.row.prog w) (callerA.deeper (envOfC (Str.ofString "law") sc L fa cd)) (exec st (envOfC (Str.ofString "law") sc L fa cd)) Q E s := by
  have N : News h₀ L s.heap ((L + 1 + 1, oM) :: news) := fun q hq => by
    rcases List.mem_cons.mp hq with rfl | hq
    · exact N _ hm
    · exact N _ hq
  have y1 := tdiv_ni (a := tn) (d := 64) (j := 6) rfl (by decide) (small (by omega))
  revert X
  k_fill
  intro X
  cases hst
  cases hsc
  (try dsimp only)
  have F := fr_know3 F h1 h2 h3
  k_steps
  (rename Fr _ _ _ _ => kF); (rename News _ _ _ _ => kN); (try dsimp only)
  refine ret _ _ _ _ _ _ _ ?_ ?_ ?_ (by (try simp only [know_pt h1, know_pt h2, know_pt h3] at kF); exact kF) (fun q hq => by
    rcases List.mem_cons.mp hq with rfl | hq
    · exact kN _ (.head _)
    · exact kN _ (.tail _ (.tail _ hq))) <;> first | assumption | omega
end
end Mine
open PySem PySem.W PyProof.Rows
set_option Elab.async false
namespace Mine
theorem w_clear_T9 : True := by
  w_top off
  k_with_none
  k_with "callWith" => (k_here; (with_reducible show wpAny _ _ (callWith _ (Value.builtin _) (_ :: _) (backTo _ (starEach (_ :: _) _)) []) _ _ _); (with_reducible refine' PyProof.Rows.callWith_method1 ?_ ?he ?hp); (case he => k_dflt rfl); (case hp => k_dflt rfl))
  k_with "callWith" => (k_here; (with_reducible show wpAny _ _ (callWith _ (Value.builtin _) [] (backTo _ (starEach (_ :: _) _)) []) _ _ _); (with_reducible refine' PyProof.Rows.callWith_builtin1 ?_ ?he ?hp); (case he => k_dflt rfl); (case hp => k_dflt rfl))
  trivial
theorem w_words_T9_1 : True := by
  k_with "execs cons" => (k_here; k_dflt (refine' execs_tok ?hn ?_; (case hn => ((try dsimp only); omega)); k_whole))
  k_with "TokNext" => (intro tk9 hk9; (try dsimp only))
  k_with "call ref" => (k_here; k_dflt (refine' CtrT.use3 (c_col _ _ _ _ (by assumption) (by assumption) (by assumption) (by assumption)) ?k1 ?k2 ?k3 ?k4 ?k5 ?kK ?kp ?kd ?ku ?kt ?_; (case k1 => k_asm); (case k2 => k_asm); (case k3 => k_asm); (case k4 => k_asm); (case k5 => k_asm); (case kK => exact rfl); (case kp => (exact True.intro)); (case kd => ktr_room); (case ku => ktr_units); (case kt => ((try dsimp only); omega)); k_whole; intro D9 a9 b9 c9 e9 h9 tk9 za9 zb9 zc9 hk9 F9 N9 hl9; (try simp only [and_true, AllNe] at hl9); (try dsimp only)))
  k_with "compareOp NotEq ref ref" => (k_here; k_dflt (refine' ne_floats3 ?ka ?kb ?t1 ?t2 ?t3 ?u1 ?u2 ?u3 ?c1 ?c2 ?c3 ?kn ?ku ?_; (case ka => exact News.get (by k_asm) (by k_mem)); (case kb => exact News.get (by k_asm) (by k_mem)); (case t1 => first | assumption | ((try dsimp only); omega)); (case t2 => first | assumption | ((try dsimp only); omega)); (case t3 => first | assumption | ((try dsimp only); omega)); (case u1 => first | assumption | ((try dsimp only); omega)); (case u2 => first | assumption | ((try dsimp only); omega)); (case u3 => first | assumption | ((try dsimp only); omega)); (case c1 => assumption); (case c2 => assumption); (case c3 => assumption); (case kn => exact noneBooked (Frag.In.keeps (by k_asm) (Fr.keep (by k_asm))) (Top.keeps (by k_asm) (Fr.keep (by k_asm)))); (case ku => ktr_units); k_whole))
  k_with "call ref" => (k_here; k_dflt (refine' CtrT.use (c_back _ _ _ _ (by assumption) (by assumption) (by assumption) (by assumption)) ?k1 ?k2 ?k3 ?k4 ?k5 ?kK ?kp ?kd ?ku ?kt ?_; (case k1 => k_asm); (case k2 => k_asm); (case k3 => k_asm); (case k4 => k_asm); (case k5 => k_asm); (case kK => exact rfl); (case kp => (exact True.intro)); (case kd => ktr_room); (case ku => ktr_units); (case kt => ((try dsimp only); omega)); k_whole; intro r9 tl9 h9 tk9 hk9 F9 N9 hl9 ho9; obtain ⟨x9, D9, a9, b9, c9, e9, ⟨za9, zb9, zc9⟩, q9, u9⟩ := ho9; subst q9; subst u9; (dsimp only [List.cons_append, List.nil_append] at N9); (try simp only [List.forall_mem_cons, List.not_mem_nil, false_implies, implies_true, and_true, AllNe, List.cons_append, List.nil_append] at hl9); (try dsimp only)))
  trivial
section
variable {w : World} {mean : ExcName → Option Value} {mg mb : Str → Option Value} {h₀ : Heap} {L fa : Addr} {cd : Value} {m : Str → Option Value} {news : List (Addr × Obj)} {s : Shared} {Q : Flow → Shared → Prop} {E : Value → Shared → Prop} {st : Stmt} {sc : Scope}
set_option maxRecDepth 100000 in
set_option maxHeartbeats 8000000 in
theorem st9 (hst : turnSt 9 = some st) (hsc : lawScope = some sc) (B : Below callerA h₀ [] h₀) (X : (Mine.hd.heap_1 w.params).In h₀) (T : Top Mine.hd.view_1 (looseW Mine.hd.view_1 []) mean mg mb h₀) (F : Fr h₀ L s.heap m) (N : News h₀ L s.heap news) (htk : 1 ≤ s.toks) {p l sh : Int} {t1 t2 t3 : Nat} {t4 t5 t6 : Tok} {D : Addr} {n : Nat} (h1 : m (Str.ofString "painted") = some (.ref D)) (h4 : m (Str.ofString "place") = some (.int p t4)) (h5 : m (Str.ofString "share") = some (.int sh t5)) (h6 : m (Str.ofString "level") = some (.int l t6)) (k1 : t1 ≠ 0) (k2 : t2 ≠ 0) (k3 : t3 ≠ 0)
    (s1 : 1 ≤ sh) (s2 : sh ≤ 4) (l1 : 0 ≤ l) (l2 : l < 16) (hm : (D, tupObj [.float (col p sh l 0) t1, .float (col p sh l 64) t2, .float (col p sh l 128) t3] n) ∈ news)
    (ret : ∀ h' tk', Fr h₀ L h' m → News h₀ L h' news → Q .next { s with heap := h', toks := tk' }) :
    wpAny (model PySem.Challenge.rw_pg0115_01.row.prog w) (callerA.deeper (envOfC (Str.ofString "law") sc L fa cd)) (exec st (envOfC (Str.ofString "law") sc L fa cd)) Q E s := by
  have N : News h₀ L s.heap ((D, tupObj [.float (col p sh l 0) t1, .float (col p sh l 64) t2, .float (col p sh l 128) t3] n) :: news) := fun q hq => by
    rcases List.mem_cons.mp hq with rfl | hq
    · exact N _ hm
    · exact N _ hq
  have c1 := col_same p 0 s1 s2 l1 l2
  have c2 := col_same p 64 s1 s2 l1 l2
  have c3 := col_same p 128 s1 s2 l1 l2
  revert X
  k_fill
  intro X
  cases hst
  cases hsc
  (try dsimp only)
  have F := fr_know4 F h1 h4 h5 h6
  k_steps
  (rename Fr _ _ _ _ => kF); (rename News _ _ _ _ => kN); (try dsimp only)
  exact ret _ _ (by (try simp only [know_pt h1, know_pt h4, know_pt h5, know_pt h6] at kF); exact kF) (news_sub kN (fun _ hp => by repeat (first | exact hp | refine List.Mem.tail _ ?_)))
set_option maxRecDepth 100000 in
set_option maxHeartbeats 8000000 in
theorem st10 (hst : turnSt 10 = some st) (hsc : lawScope = some sc) (B : Below callerA h₀ [] h₀) (X : (Mine.hd.heap_1 w.params).In h₀) (T : Top Mine.hd.view_1 (looseW Mine.hd.view_1 []) mean mg mb h₀) (F : Fr h₀ L s.heap m) (N : News h₀ L s.heap news) (htk : 1 ≤ s.toks) {p l sh : Int} {t1 t2 t3 : Nat} {D : Addr} {n : Nat} (h1 : m (Str.ofString "painted") = some (.ref D)) (k1 : t1 ≠ 0) (k2 : t2 ≠ 0) (k3 : t3 ≠ 0)
    (hOk : SpotOk p l sh) (hm : (D, tupObj [.float (col p sh l 0) t1, .float (col p sh l 64) t2, .float (col p sh l 128) t3] n) ∈ news)
    (ret : ∀ h' tk' (ta tb tc : Nat) x, ta ≠ 0 → tb ≠ 0 → Fr h₀ L h' (fun y => if y = (Str.ofString "other") then some (.float x tc) else if y = (Str.ofString "light") then some (.float (tdiv ((l + 1) * (8 - sh)) 128) tb) else if y = (Str.ofString "far_hue") then some (.float (tdiv p 64) ta) else m y) → News h₀ L h' news → Q .next { s with heap := h', toks := tk' }) :
    wpAny (model PySem.Challenge.rw_pg0115_01.row.prog w) (callerA.deeper (envOfC (Str.ofString "law") sc L fa cd)) (exec st (envOfC (Str.ofString "law") sc L fa cd)) Q E s := by
  have N : News h₀ L s.heap ((D, tupObj [.float (col p sh l 0) t1, .float (col p sh l 64) t2, .float (col p sh l 128) t3] n) :: news) := fun q hq => by
    rcases List.mem_cons.mp hq with rfl | hq
    · exact N _ hm
    · exact N _ hq
  revert X
  k_fill
  intro X
  cases hst
  cases hsc
  (try dsimp only)
  have F := fr_know1 F h1
  k_steps
  (rename Fr _ _ _ _ => kF); (rename News _ _ _ _ => kN); (try dsimp only)
  refine ret _ _ _ _ _ _ ?_ ?_ (by (try simp only [know_pt h1] at kF); exact kF) (news_sub kN (fun _ hp => by repeat (first | exact hp | refine List.Mem.tail _ ?_))) <;> first | assumption | omega
end
end Mine
open PySem PySem.W PyProof.Rows
set_option Elab.async false
namespace Mine
theorem w_clear_T11 : True := by
  w_top off
  k_with_none
  k_with "callWith" => (k_here; (with_reducible show wpAny _ _ (callWith _ (Value.builtin _) (_ :: _) (backTo _ (starEach (_ :: _) _)) []) _ _ _); (with_reducible refine' PyProof.Rows.callWith_method1 ?_ ?he ?hp); (case he => k_dflt rfl); (case hp => k_dflt rfl))
  k_with "callWith" => (k_here; (with_reducible show wpAny _ _ (callWith _ (Value.builtin _) [] (backTo _ (starEach (_ :: _) _)) []) _ _ _); (with_reducible refine' PyProof.Rows.callWith_builtin1 ?_ ?he ?hp); (case he => k_dflt rfl); (case hp => k_dflt rfl))
  trivial
theorem w_words_T11_1 : True := by
  k_with "execs cons" => (k_here; k_dflt (refine' execs_tok ?hn ?_; (case hn => ((try dsimp only); omega)); k_whole))
  k_with "TokNext" => (intro tk9 hk9; (try dsimp only))
  k_with "compareOp NotEq ref ref" => (k_here; k_dflt (refine' ne_floats2 ?ka ?kb ?t1 ?t2 ?u1 ?u2 ?c1 ?c2 ?kn ?ku ?_; (case ka => exact News.get (by k_asm) (by k_mem)); (case kb => exact News.get (by k_asm) (by k_mem)); (case t1 => first | assumption | ((try dsimp only); omega)); (case t2 => first | assumption | ((try dsimp only); omega)); (case u1 => first | assumption | ((try dsimp only); omega)); (case u2 => first | assumption | ((try dsimp only); omega)); (case c1 => assumption); (case c2 => assumption); (case kn => exact noneBooked (Frag.In.keeps (by k_asm) (Fr.keep (by k_asm))) (Top.keeps (by k_asm) (Fr.keep (by k_asm)))); (case ku => ktr_units); k_whole))
  trivial
section
variable {w : World} {mean : ExcName → Option Value} {mg mb : Str → Option Value} {h₀ : Heap} {L fa : Addr} {cd : Value} {m : Str → Option Value} {news : List (Addr × Obj)} {s : Shared} {Q : Flow → Shared → Prop} {E : Value → Shared → Prop} {st : Stmt} {sc : Scope}
set_option maxRecDepth 100000 in
set_option maxHeartbeats 8000000 in
theorem st11 (hst : turnSt 11 = some st) (hsc : lawScope = some sc) (B : Below callerA h₀ [] h₀) (X : (Mine.hd.heap_1 w.params).In h₀) (T : Top Mine.hd.view_1 (looseW Mine.hd.view_1 []) mean mg mb h₀) (F : Fr h₀ L s.heap m) (N : News h₀ L s.heap news) (htk : 1 ≤ s.toks) {p l sh : Int} {t1 t2 : Nat} {t4 t5 t6 : Tok} (h1 : m (Str.ofString "far_hue") = some (.float (tdiv p 64) t1)) (h2 : m (Str.ofString "light") = some (.float (tdiv ((l + 1) * (8 - sh)) 128) t2)) (k1 : t1 ≠ 0) (k2 : t2 ≠ 0)
    (h4 : m (Str.ofString "place") = some (.int p t4)) (h5 : m (Str.ofString "share") = some (.int sh t5)) (h6 : m (Str.ofString "level") = some (.int l t6)) (hOk : SpotOk p l sh)
    (ret : ∀ h' tk', Fr h₀ L h' m → News h₀ L h' news → Q .next { s with heap := h', toks := tk' }) :
    wpAny (model PySem.Challenge.rw_pg0115_01.row.prog w) (callerA.deeper (envOfC (Str.ofString "law") sc L fa cd)) (exec st (envOfC (Str.ofString "law") sc L fa cd)) Q E s := by
  obtain ⟨p0, p1, l0, l1, s0, s1⟩ := hOk
  have r0 : 0 ≤ (l + 1) * (8 - sh) := Int.mul_nonneg (by omega) (by omega)
  have r1 : (l + 1) * (8 - sh) ≤ 16 * 7 := Int.mul_le_mul (by omega) (by omega) (by omega) (by decide)
  have y1 := tdiv_ni (a := p) (d := 64) (j := 6) rfl (by decide) (small (by omega))
  have y2 := tdiv_ni (a := (l + 1) * (8 - sh)) (d := 128) (j := 7) rfl (by decide) (small (by omega))
  have c1 := tdiv_same (a := p) (d := 64) (j := 6) rfl (by decide) (small (by omega))
  have c2 := tdiv_same (a := (l + 1) * (8 - sh)) (d := 128) (j := 7) rfl (by decide) (small (by omega))
  revert X
  k_fill
  intro X
  cases hst
  cases hsc
  (try dsimp only)
  have F := fr_know5 F h1 h2 h4 h5 h6
  k_steps
  (rename Fr _ _ _ _ => kF); (rename News _ _ _ _ => kN); (try dsimp only)
  exact ret _ _ (by (try simp only [know_pt h1, know_pt h2, know_pt h4, know_pt h5, know_pt h6] at kF); exact kF) (news_sub kN (fun _ hp => by repeat (first | exact hp | refine List.Mem.tail _ ?_)))
end
end Mine
open PySem PySem.W PyProof.Rows
set_option Elab.async false
namespace Mine
theorem w_clear_T13 : True := by
  w_top off
  k_with_none
  k_with "callWith" => (k_here; (with_reducible show wpAny _ _ (callWith _ (Value.builtin _) (_ :: _) (backTo _ (starEach (_ :: _) _)) []) _ _ _); (with_reducible refine' PyProof.Rows.callWith_method1 ?_ ?he ?hp); (case he => k_dflt rfl); (case hp => k_dflt rfl))
  k_with "callWith" => (k_here; (with_reducible show wpAny _ _ (callWith _ (Value.builtin _) [] (backTo _ (starEach (_ :: _) _)) []) _ _ _); (with_reducible refine' PyProof.Rows.callWith_builtin1 ?_ ?he ?hp); (case he => k_dflt rfl); (case hp => k_dflt rfl))
  trivial
theorem w_words_T13_1 : True := by
  k_with "execs cons" => (k_here; k_dflt (refine' execs_tok ?hn ?_; (case hn => ((try dsimp only); omega)); k_whole))
  k_with "TokNext" => (intro tk9 hk9; (try dsimp only))
  k_with "call ref" => (k_here; k_dflt (refine' Ctr.useS (c_mod3 _ _ _ _) ?k1 ?k2 ?k3 ?k4 ?k5 ?kK ?kp ?kd ?ku ?_; (case k1 => k_asm); (case k2 => k_asm); (case k3 => k_asm); (case k4 => k_asm); (case k5 => k_asm); (case kK => exact rfl); (case kp => (exact True.intro)); (case kd => ktr_room); (case ku => ktr_units); k_whole; intro a9 h9 tk9 F9 N9; (try dsimp only)))
  k_with "call ref" => (k_here; k_dflt (refine' Ctr.useS (c_fld2 _ _ _ _) ?k1 ?k2 ?k3 ?k4 ?k5 ?kK ?kp ?kd ?ku ?_; (case k1 => k_asm); (case k2 => k_asm); (case k3 => k_asm); (case k4 => k_asm); (case k5 => k_asm); (case kK => exact rfl); (case kp => (exact True.intro)); (case kd => ktr_room); (case ku => ktr_units); k_whole; intro a9 h9 tk9 F9 N9; (try dsimp only)))
  k_with "call builtin:list.append" => (k_here; k_dflt (refine' append_in (own := []) ?kF ?kN ?ko ?kr ?_ ?ks; (case kF => k_asm); (case kN => k_asm); (case ko => exact fun _ h => nomatch h); (case kr => assumption); (case ks => (rw [sizeLine_eq]; omega)); k_whole; intro h9 F9 N9; (simp only [List.nil_append] at N9)))
  k_with "binaryOp Add str str" => (k_here; k_dflt (refine' PyProof.Rows.add_str ?_ ?ks; (case ks => exact fld_add_len _); k_whole; intro t9 tk9))
  trivial
section
variable {w : World} {mean : ExcName → Option Value} {mg mb : Str → Option Value} {h₀ : Heap} {L fa : Addr} {cd : Value} {m : Str → Option Value} {news : List (Addr × Obj)} {s : Shared} {Q : Flow → Shared → Prop} {E : Value → Shared → Prop} {st : Stmt} {sc : Scope}
set_option maxRecDepth 100000 in
set_option maxHeartbeats 8000000 in
theorem st13 (hst : turnSt 13 = some st) (hsc : lawScope = some sc) (B : Below callerA h₀ [] h₀) (X : (Mine.hd.heap_1 w.params).In h₀) (T : Top Mine.hd.view_1 (looseW Mine.hd.view_1 []) mean mg mb h₀) (F : Fr h₀ L s.heap m) (N : News h₀ L s.heap news) (htk : 1 ≤ s.toks) {l sh : Int} {k : Bool} {t1 t2 : Nat} {lm : Addr} {vs : List Value} {e : Nat} {rest : List (Addr × Obj)} (h1 : m (Str.ofString "light") = some (.float (tdiv ((l + 1) * (8 - sh)) 128) t1)) (h2 : m (Str.ofString "far_files") = some (.ref lm)) (h3 : m (Str.ofString "known") = some (.bool k)) (h4 : m (Str.ofString "share") = some (.int sh t2)) (l0 : 0 ≤ l) (l1 : l < 16) (s0 : 1 ≤ sh) (s1 : sh ≤ 4)
    (hl : vs.length ≤ 15) (hn : news = (lm, W.listOf vs.toArray e) :: rest) (hne : ∀ q ∈ rest, q.1 ≠ lm)
    (ret : ∀ h' tk' v e', OptsAre [v] [fileT k l] → Fr h₀ L h' m → News h₀ L h' ((lm, W.listOf (vs ++ [v]).toArray e') :: rest) → Q .next { s with heap := h', toks := tk' }) :
    wpAny (model PySem.Challenge.rw_pg0115_01.row.prog w) (callerA.deeper (envOfC (Str.ofString "law") sc L fa cd)) (exec st (envOfC (Str.ofString "law") sc L fa cd)) Q E s := by
  subst hn
  have y2 := light_fin (k := l + 1) (c := 8 - sh) (by omega) (by omega) (by omega) (by omega)
  have y3 := light_int (k := l + 1) (c := 8 - sh) (by omega) (by omega) (by omega) (by omega)
  have y4 := fin_nan y2
  have y5 := fin_inf y2
  revert X
  k_fill
  intro X
  cases hst
  cases hsc
  (try dsimp only)
  have F := fr_know4 F h1 h2 h3 h4
  k_steps
  all_goals (try (exfalso; simp only [*, reduceCtorEq] at y4; done))
  all_goals (try (exfalso; simp only [*, reduceCtorEq] at y5; done))
  all_goals ((rename Fr _ _ _ _ => kF); (rename News _ _ _ _ => kN); (try dsimp only); first | exact ret _ _ _ _ (fileT_t (by assumption) y3) (by (try simp only [know_pt h1, know_pt h2, know_pt h3, know_pt h4] at kF); exact kF) kN | exact ret _ _ _ _ (fileT_f (by assumption)) (by (try simp only [know_pt h1, know_pt h2, know_pt h3, know_pt h4] at kF); exact kF) kN)
end
end Mine
open PySem PySem.W PyProof.Rows
set_option Elab.async false
namespace Mine
theorem w_clear_Tu : True := by
  w_top off
  k_with_none
  k_with "callWith" => (k_here; (with_reducible show wpAny _ _ (callWith _ (Value.builtin _) (_ :: _) (backTo _ (starEach (_ :: _) _)) []) _ _ _); (with_reducible refine' PyProof.Rows.callWith_method1 ?_ ?he ?hp); (case he => k_dflt rfl); (case hp => k_dflt rfl))
  k_with "callWith" => (k_here; (with_reducible show wpAny _ _ (callWith _ (Value.builtin _) [] (backTo _ (starEach (_ :: _) _)) []) _ _ _); (with_reducible refine' PyProof.Rows.callWith_builtin1 ?_ ?he ?hp); (case he => k_dflt rfl); (case hp => k_dflt rfl))
  trivial
section
variable {w : World} {mean : ExcName → Option Value} {mg mb : Str → Option Value} {h₀ : Heap} {L fa : Addr} {cd : Value} {m : Str → Option Value} {news : List (Addr × Obj)} {s : Shared} {Q : Flow → Shared → Prop} {E : Value → Shared → Prop} {st : Stmt} {sc : Scope}
set_option maxRecDepth 100000 in
set_option maxHeartbeats 8000000 in
theorem st_in (hsc : lawScope = some sc) (B : Below callerA h₀ [] h₀) (X : (Mine.hd.heap_1 w.params).In h₀) (T : Top Mine.hd.view_1 (looseW Mine.hd.view_1 []) mean mg mb h₀) (F : Fr h₀ L s.heap m) (N : News h₀ L s.heap news) (htk : 1 ≤ s.toks) {target iter : Expr} {body orelse : List Stmt} {pos : Pos} (hf : lawSt 9 = some (.For target iter body orelse pos)) {Q : Unit → Shared → Prop}
    {p l sh : Int} {k : Bool} {t1 t2 t3 : Tok} {n : Nat} {a : Addr} (hm : (a, tupObj [.int p t1, .int l t2, .int sh t3, .bool k] n) ∈ news)
    (ret : ∀ h' tk', Fr h₀ L h' (fun y => if y = (Str.ofString "known") then some (.bool k) else if y = (Str.ofString "share") then some (.int sh t3) else if y = (Str.ofString "level") then some (.int l t2) else if y = (Str.ofString "place") then some (.int p t1) else m y) → News h₀ L h' news → Q () { s with heap := h', toks := tk' }) :
    wpAny (model PySem.Challenge.rw_pg0115_01.row.prog w) (callerA.deeper (envOfC (Str.ofString "law") sc L fa cd)) (assign target (envOfC (Str.ofString "law") sc L fa cd) (.ref a)) Q E s := by
  have N : News h₀ L s.heap ((a, tupObj [.int p t1, .int l t2, .int sh t3, .bool k] n) :: news) := fun q hq => by
    rcases List.mem_cons.mp hq with rfl | hq
    · exact N _ hm
    · exact N _ hq
  revert X
  k_fill
  intro X
  cases hf
  cases hsc
  dsimp only
  k_steps
  (rename Fr _ _ _ _ => kF); (rename News _ _ _ _ => kN); (try dsimp only)
  exact ret _ _ kF (news_sub kN (fun _ hp => by repeat (first | exact hp | refine List.Mem.tail _ ?_)))

theorem not_name {y : Str} (hy : lawNames.contains y = false) {x : Str} (hx : lawNames.contains x = true) : ¬ y = x := by
  rintro rfl; rw [hx] at hy; cases hy
theorem fr_close {h : Heap} {mf m₁ : Str → Option Value} (F : Fr h₀ L h mf) (e : ∀ y, lawNames.contains y = false → mf y = m₁ y) : Fr h₀ L h (fun y => if lawNames.contains y = true then mf y else m₁ y) := by
  rw [show (fun y => if lawNames.contains y = true then mf y else m₁ y) = mf from funext fun y => by
    by_cases hy : lawNames.contains y = true
    · rw [if_pos hy]
    · rw [if_neg hy, e y (by simpa using hy)]]
  exact F
theorem ro {α : Type} {a b c d e : α} {r : List α} : (∀ p ∈ e :: a :: b :: c :: d :: r, p ∈ a :: b :: c :: d :: e :: r) ∧ (∀ p ∈ a :: b :: c :: d :: e :: r, p ∈ e :: a :: b :: c :: d :: r) := by
  constructor <;> intro p hp <;> simp only [List.mem_cons] at hp ⊢ <;> rcases hp with h | h | h | h | h | h <;> simp [h]
theorem pm_d {α : Type} {a b c d e : α} {r : List α} : ∀ p ∈ d :: a :: b :: c :: e :: r, p ∈ a :: b :: c :: d :: e :: r := by
  intro p hp; simp only [List.mem_cons] at hp ⊢; rcases hp with h | h | h | h | h | h <;> simp [h]
theorem pm_4 {α : Type} {a b c d e : α} {r : List α} : ∀ p ∈ d :: b :: c :: a :: e :: r, p ∈ a :: b :: c :: d :: e :: r := by
  intro p hp; simp only [List.mem_cons] at hp ⊢; rcases hp with h | h | h | h | h | h <;> simp [h]
theorem pm_3 {α : Type} {a b c d e : α} {r : List α} : ∀ p ∈ c :: b :: a :: d :: e :: r, p ∈ a :: b :: c :: d :: e :: r := by
  intro p hp; simp only [List.mem_cons] at hp ⊢; rcases hp with h | h | h | h | h | h <;> simp [h]
theorem pm_2 {α : Type} {a b c d e : α} {r : List α} : ∀ p ∈ b :: a :: c :: d :: e :: r, p ∈ a :: b :: c :: d :: e :: r := by
  intro p hp; simp only [List.mem_cons] at hp ⊢; rcases hp with h | h | h | h | h | h <;> simp [h]
theorem if_out {x y : Str} {v b c : Option Value} (hx : ¬ y = x) (h : b = c) : (if y = x then v else b) = c := by rw [if_neg hx]; exact h
theorem all5 {P : Addr × Obj → Prop} {a b c d : Addr × Obj} {r : List (Addr × Obj)} (h1 : P a) (h2 : P b) (h3 : P c) (h4 : P d) (h : ∀ q ∈ r, P q) : ∀ q ∈ a :: b :: c :: d :: r, P q :=
  List.forall_mem_cons.mpr ⟨h1, List.forall_mem_cons.mpr ⟨h2, List.forall_mem_cons.mpr ⟨h3, List.forall_mem_cons.mpr ⟨h4, h⟩⟩⟩⟩
theorem mv_q {mi : Bool} {p : Int} (p0 : 0 ≤ p) (p1 : p < 64) : 0 ≤ (if mi then 64 - p else p) ∧ (if mi then 64 - p else p) ≤ 64 := by
  cases mi <;> simp <;> omega
theorem mv_p {mi : Bool} {p tn : Int} : ((if mi then 64 - p else p) + tn) % 64 = moveP mi tn p := by
  unfold moveP
  cases mi <;> simp [Int.fmod_eq_emod_of_nonneg] <;> omega
theorem mv_pf {mi : Bool} {p tn : Int} : ((if mi then -p else p) + tn).fmod 64 = moveP mi tn p := rfl
theorem mv_ok {mi fl : Bool} {p l sh tn : Int} (h : SpotOk p l sh) : SpotOk (moveP mi tn p) (moveL fl l) sh := by
  obtain ⟨p0, p1, l0, l1, s0, s1⟩ := h
  refine ⟨Int.fmod_nonneg_of_pos _ (by decide), Int.fmod_lt_of_pos _ (by decide), ?_, ?_, s0, s1⟩ <;> unfold moveL <;> cases fl <;> simp <;> omega
set_option maxHeartbeats 4000000 in
theorem law_turn (hsc : lawScope = some sc) (B : Below callerA h₀ [] h₀) (X : (Mine.hd.heap_1 w.params).In h₀) (T : Top Mine.hd.view_1 (looseW Mine.hd.view_1 []) mean mg mb h₀)
    {target iter : Expr} {body orelse : List Stmt} {pos : Pos} (hf : lawSt 9 = some (.For target iter body orelse pos)) {u m₀ : Str → Option Value} (F : Fr h₀ L s.heap (fun y => if lawNames.contains y = true then u y else m₀ y))
    {I ly lx lf lm : Addr} {oI oT oM oF : Obj} {vY vX vF vM : List Value} {e4 e3 e2 e1 : Nat} {rest : List (Addr × Obj)} {tn : Int} {mi fl : Bool} {tt : Tok}
    (N : News h₀ L s.heap ((I, oI) :: (ly, W.listOf vY.toArray e4) :: (lx, W.listOf vX.toArray e3) :: (lf, W.listOf vF.toArray e2) :: (lm, W.listOf vM.toArray e1) :: rest)) (htk : 1 ≤ s.toks)
    (m1 : m₀ (Str.ofString "modules") = some (.ref lm)) (m2 : m₀ (Str.ofString "files") = some (.ref lf)) (m3 : m₀ (Str.ofString "far_modules") = some (.ref lx)) (m4 : m₀ (Str.ofString "far_files") = some (.ref ly))
    (cT : (L + 1 + 1, oT) ∈ rest) (dT : oT.data = .cell (some (.int tn tt))) (cM : (L + 1 + 1 + 1, oM) ∈ rest) (dM : oM.data = .cell (some (.bool mi))) (cF : (L + 1 + 1 + 1 + 1, oF) ∈ rest) (dF : oF.data = .cell (some (.bool fl)))
    (n1 : ∀ q ∈ rest, q.1 ≠ ly) (n2 : ∀ q ∈ rest, q.1 ≠ lx) (n3 : ∀ q ∈ rest, q.1 ≠ lf) (n4 : ∀ q ∈ rest, q.1 ≠ lm)
    (d1 : I ≠ ly) (d2 : I ≠ lx) (d3 : I ≠ lf) (d4 : I ≠ lm) (d5 : ly ≠ lx) (d6 : ly ≠ lf) (d7 : ly ≠ lm) (d8 : lx ≠ lf) (d9 : lx ≠ lm) (d10 : lf ≠ lm)
    (lY : vY.length ≤ 15) (lX : vX.length ≤ 15) (lF : vF.length ≤ 15) (lM : vM.length ≤ 15) (tn0 : 0 ≤ tn) (tn1 : tn < 64)
    {p l sh : Int} {k : Bool} {t1 t2 t3 : Tok} {n : Nat} {a : Addr} (hm : (a, tupObj [.int p t1, .int l t2, .int sh t3, .bool k] n) ∈ rest) (hOk : SpotOk p l sh)
    (ret : ∀ h' tk' (u' : Str → Option Value) tM tX zF zY f1 f2 f3 f4, 1 ≤ tk' → OptsAre [zF] [fileT k l] → OptsAre [zY] [fileT k (moveL fl l)] → Fr h₀ L h' (fun y => if lawNames.contains y = true then u' y else m₀ y) →
      News h₀ L h' ((I, oI) :: (ly, W.listOf (vY ++ [zY]).toArray f4) :: (lx, W.listOf (vX ++ [Value.str (modT 3 (moveP mi tn p)) tX]).toArray f3) :: (lf, W.listOf (vF ++ [zF]).toArray f2) :: (lm, W.listOf (vM ++ [Value.str (modT 3 p) tM]).toArray f1) :: rest) → Q .next { s with heap := h', toks := tk' }) :
    wpAny (model PySem.Challenge.rw_pg0115_01.row.prog w) (callerA.deeper (envOfC (Str.ofString "law") sc L fa cd)) (assign target (envOfC (Str.ofString "law") sc L fa cd) (.ref a))
      (fun _ s₃ => wpAny (model PySem.Challenge.rw_pg0115_01.row.prog w) (callerA.deeper (envOfC (Str.ofString "law") sc L fa cd)) (execs body (envOfC (Str.ofString "law") sc L fa cd)) Q (fun _ _ => False) s₃) (fun _ _ => False) s := by
  obtain ⟨p0, p1, l0, l1, s0, s1⟩ := id hOk
  refine wpAny_with_toks (n := 1) htk ?_
  refine st_in hsc B X T F N htk hf (.tail _ (.tail _ (.tail _ (.tail _ (.tail _ hm))))) fun h tk F N htk => ?_
  cases hf
  refine execs_tok htk ?_
  refine st0 rfl hsc B X T F N htk rfl rfl rfl s0 s1 l0 l1 fun h tk ta tb tc za zb zc F N tk htk => ?_
  refine execs_tok htk ?_
  refine st1 rfl hsc B X T F N htk rfl rfl rfl za zb zc hOk fun h tk th tl tv zh zl zv F N tk htk => ?_
  refine execs_tok htk ?_
  refine st2 rfl hsc B X T F N htk rfl rfl rfl zh zl zv rfl rfl rfl hOk fun h tk F N tk htk => ?_
  refine execs_tok htk ?_
  have ok' := mv_ok (mi := mi) (fl := fl) (tn := tn) hOk
  obtain ⟨p0', p1', l0', l1', _, _⟩ := id ok'
  have hq := mv_q (mi := mi) p0 p1
  refine st3 rfl hsc B X T F (news_sub N ro.1) htk rfl m1 p0 p1 lM rfl (all5 d4 d7 d9 d10 n4) fun h tk tM f1 F N tk htk => ?_
  have N := news_sub N ro.2
  refine execs_tok htk ?_
  have N : News h₀ L h ((lf, W.listOf vF.toArray e2) :: (I, oI) :: (ly, W.listOf vY.toArray e4) :: (lx, W.listOf vX.toArray e3) :: (lm, W.listOf (vM ++ [Value.str (modT 3 p) tM]).toArray f1) :: rest) := news_sub N pm_d
  refine st4 rfl hsc B X T F N htk rfl m2 rfl l0 l1 lF rfl (all5 d3 d6 d8 (Ne.symm d10) n3) fun h tk zF f2 oz F N tk htk => ?_
  refine execs_tok htk ?_
  refine st5 rfl hsc B X T F N htk rfl rfl p0 p1 zh (.tail _ (.tail _ (.tail _ (.tail _ (.tail _ cM))))) dM fun h tk th2 tp zh2 F N tk htk => ?_
  refine execs_tok htk ?_
  refine st6 rfl hsc B X T F N htk rfl rfl l0 l1 zv (.tail _ (.tail _ (.tail _ (.tail _ (.tail _ cF))))) dF fun h tk tv2 tl2 zv2 F N tk htk => ?_
  refine execs_tok htk ?_
  refine st7 rfl hsc B X T F N htk rfl (.tail _ (.tail _ (.tail _ (.tail _ (.tail _ cT))))) dT fun h tk tp F N tk htk => ?_
  refine execs_tok htk ?_
  refine st8 rfl hsc B X T F N htk rfl rfl rfl zh2 zl zv2 hq.1 hq.2 tn0 tn1 l0' l1' s0 s1 (.tail _ (.tail _ (.tail _ (.tail _ (.tail _ cT))))) dT fun h tk D n ta tb tc za zb zc F N tk htk => ?_
  refine execs_tok htk ?_
  rw [mv_p] at N
  rw [mv_pf] at F
  refine st9 rfl hsc B X T F N htk rfl rfl rfl rfl za zb zc s0 s1 l0' l1' (.head _) fun h tk F N tk htk => ?_
  refine execs_tok htk ?_
  refine st10 rfl hsc B X T F N htk rfl za zb zc ok' (.head _) fun h tk tf tl3 to x zf zl3 F N tk htk => ?_
  refine execs_tok htk ?_
  refine st11 rfl hsc B X T F N htk rfl rfl zf zl3 rfl rfl rfl ok' fun h tk F N tk htk => ?_
  refine execs_tok htk ?_
  have N := news_sub N (fun _ hp => List.Mem.tail _ hp)
  have N : News h₀ L h ((lx, W.listOf vX.toArray e3) :: (I, oI) :: (ly, W.listOf vY.toArray e4) :: (lf, W.listOf (vF ++ [zF]).toArray f2) :: (lm, W.listOf (vM ++ [Value.str (modT 3 p) tM]).toArray f1) :: rest) := news_sub N pm_4
  refine st12 rfl hsc B X T F N htk rfl m3 p0' p1' lX rfl (all5 d2 d5 (Ne.symm d8) (Ne.symm d9) n2) fun h tk tX f3 F N tk htk => ?_
  refine execs_tok htk ?_
  have N : News h₀ L h ((ly, W.listOf vY.toArray e4) :: (I, oI) :: (lx, W.listOf (vX ++ [Value.str (modT 3 (moveP mi tn p)) tX]).toArray f3) :: (lf, W.listOf (vF ++ [zF]).toArray f2) :: (lm, W.listOf (vM ++ [Value.str (modT 3 p) tM]).toArray f1) :: rest) := news_sub N pm_3
  refine st13 rfl hsc B X T F N htk rfl m4 rfl rfl l0' l1' s0 s1 lY rfl (all5 d1 (Ne.symm d5) (Ne.symm d6) (Ne.symm d7) n1) fun h tk zY f4 oy F N tk htk => ?_
  refine wpAny_execs_nil ?_
  refine ret h tk _ tM tX zF zY f1 f2 f3 f4 htk oz oy (fr_close F fun y hy => ?_) (news_sub N pm_2)
  have g := fun x hx => not_name (x := x) hy hx
  repeat (refine if_out (g _ rfl) ?_)
  simp only [hy, Bool.false_eq_true, if_false]
end
end Mine
open PySem PySem.W PyProof.Rows
set_option Elab.async false
namespace Mine
section
variable {prog : Program} {w : World} {A₀ A : Around} {s : Shared} {K : Frag} {base h₀ : Heap} {outer : List Env} {L : Addr} {m mg mb : Str → Option Value} {env : Env} {p : Program} {loose : List Str} {mean : ExcName → Option Value}
  {R : Result → Shared → Prop} {name qual : Str} {params : Arguments} {body : List Stmt} {scope : Scope} {dV kV doc pm cdv ct oc : Value} {an od : Option Addr} {osl : Array (Option Value)} {f : Addr} {args : Args} {binds : List (Str × Value)}
/-- a call of a def whose frame has cells, the whole heap taken as the base -/
theorem callVC {P : Heap → Prop} (hP : P s.heap) (B : Below A₀ base outer h₀) (F : Fr h₀ L s.heap m) (X₀ : K.In h₀) (T : Top p loose mean mg mb h₀) (hA : A.frames = some (env :: outer)) (hf : env.frame = some L) (hke : env.scope.kind = .function)
    (ho : K.lookup f = some ⟨oc, od, .func (fnOf name qual params body scope dV kV doc pm an cdv ct), osl⟩) (hcd : codeIn K cdv qual = true) (hroom : A.depth < recursionLimit)
    (hbind : BindsTo s (fnOf name qual params body scope dV kV doc pm an cdv ct) args binds) (hkind : (binds.all fun y => scope.names.lookup y.1 == some .local || scope.names.lookup y.1 == some .cell) = true)
    (hnd : ((cellsFrom 0 scope.names []).map (·.1)).Nodup)
    (h : ∀ g L' h₁ tk cells, P g → s.heap.StaysIn g → Fr g L' h₁ (bindL (envOfC qual scope L' f cdv).kindOf binds fun _ => none) → News g L' h₁ cells →
      CellsAre (bindC (envOfC qual scope L' f cdv).kindOf binds fun _ => none) (cellsFrom (L' + 1) scope.names []) cells → Below A base (env :: outer) g → K.In g → Top p loose mean mg mb g →
      wpAny (model prog w) (A.deeper (envOfC qual scope L' f cdv)) (execs body (envOfC qual scope L' f cdv))
        (fun fl s' => R (.ok (.ret (match fl with | .ret v => v | _ => .none))) s')
        (fun e s' => wpAny (model prog w) (A.deeper (envOfC qual scope L' f cdv)) (leaving (envOfC qual scope L' f cdv) e) (fun _ s'' => R (.error e) s'') (fun e' s'' => R (.error e') s'') s')
        { s with heap := h₁, toks := tk })
    (hco : scope.isCoroutine = false) (hgen : scope.isGenerator = false) (hk : scope.kind = .function) : codeAny (model prog w) A (.call (.ref f) args) R s := by
  obtain ⟨_, BG, st, _⟩ := groundX (R := R) B F (News.nil) hA hf hke
  refine codeAny_call_function (fd := fnOf name qual params body scope dV kV doc pm an cdv ct) hroom ((X₀.keeps F.keep) _ _ ho) rfl hco hgen rfl (codeRec_of (X₀.keeps F.keep) hcd) (hbind _ _ _ _ ?_)
  refine wpAny_newFunctionEnv_cells hk (kindsX hkind _) fun env' he s' x => ?_
  subst he
  refine ⟨(T.nolimit.keeps F.keep).keeps x.toInCall.keep, codeAny_func ?_⟩
  obtain ⟨h₁, tk, rfl, _⟩ := x.done
  have hk₁ := x.toInCall.keep
  obtain ⟨cells, NC, Y⟩ := Cl.news (h₀ := s.heap) (Nat.le_refl _) fun n c hm => ⟨x.cell n c (lookup_of_mem_nodup (cellsFrom_names scope.names 0 (s.heap.objs.size + 1) [] [] rfl ▸ hnd) hm), x.above n c hm⟩
  exact h s.heap s.heap.objs.size h₁ tk cells hP (fun _ _ e => e) ⟨x.toInCall.ns, hk₁, Nat.le_refl _⟩ NC Y BG (X₀.keeps F.keep) (T.keeps F.keep)
/-- a call of a def that turns the objects nl, all else taken as the base -/
theorem callM {nl : List (Addr × Obj)} (N : News h₀ L s.heap nl) (B : Below A₀ base outer h₀) (F : Fr h₀ L s.heap m) (X₀ : K.In h₀) (T : Top p loose mean mg mb h₀) (hA : A.frames = some (env :: outer)) (hf : env.frame = some L) (hke : env.scope.kind = .function)
    (ho : K.lookup f = some ⟨oc, od, .func (fnOf name qual params body scope dV kV doc pm an cdv ct), osl⟩) (hcd : codeIn K cdv qual = true) (hroom : A.depth < recursionLimit)
    (hbind : BindsTo s (fnOf name qual params body scope dV kV doc pm an cdv ct) args binds) (hloc : ∀ y ∈ binds, scope.names.lookup y.1 = some .local)
    (h : ∀ g L' h₁, (∀ b o, b ∉ nl.map (·.1) → s.heap.get? b = some o → g.get? b = some o) → Fr g L' h₁ (fun y => binds.reverse.lookup y) → News g L' h₁ nl → Below A base (env :: outer) g → K.In g → Top p loose mean mg mb g →
      wpAny (model prog w) (A.deeper (envOf qual scope L' f cdv)) (execs body (envOf qual scope L' f cdv))
        (fun fl s' => R (.ok (.ret (match fl with | .ret v => v | _ => .none))) s')
        (fun e s' => wpAny (model prog w) (A.deeper (envOf qual scope L' f cdv)) (leaving (envOf qual scope L' f cdv) e) (fun _ s'' => R (.error e) s'') (fun e' s'' => R (.error e') s'') s')
        { s with heap := h₁, toks := s.toks + binds.length })
    (hco : scope.isCoroutine = false) (hgen : scope.isGenerator = false) (hk : scope.kind = .function)
    (hcell : ∀ x ∈ scope.names, x.2 ≠ .cell) : codeAny (model prog w) A (.call (.ref f) args) R s := by
  obtain ⟨_, BG, st, _⟩ := groundX (R := R) B F N hA hf hke
  refine codeAny_call_def (fd := fnOf name qual params body scope dV kV doc pm an cdv ct) (body := body) (binds := binds) hroom ((X₀.keeps F.keep) _ _ ho) rfl (T.nolimit.keeps F.keep) (codeRec_of (X₀.keeps F.keep) hcd) rfl hbind hcell hloc (fun h₁ hns hk₁ => ?_) hco hgen hk
  exact h _ s.heap.objs.size h₁ (fun b o hb e => hideAll_get _ e hb) ⟨hns, fun b o e => hk₁ b o (of_hideAll _ e), Nat.le_of_eq (hideAll_size _ _)⟩
    (fun p hp => ⟨hk₁ _ _ (N p hp).1, Nat.ne_of_lt (Heap.lt_size (N p hp).1), hideAll_none _ (List.mem_map_of_mem hp)⟩) BG (X₀.keeps st) (T.keeps st)
end
theorem wp_of_peekB {α : Type} {K : Frag} {M : Model} {A : Around} {E : Value → Shared → Prop} {Q : α → Shared → Prop} {s : Shared} {o : Obj} (X : K.In s.heap) :
    ∀ (t : Sem α) (g : Addr → Sem α), peekA K ⟨M.prog, M.w.params⟩ t = some (o, g) → wpAny M A (g s.heap.objs.size) Q E { s with heap := s.heap.push o } → wpAny M A t Q E s := by
  intro t
  induction t with
  | rule _ k ih => intro g e q Γ p hΓ; exact ih () g e q Γ p hΓ
  | point _ k ih => intro g e q Γ p hΓ; exact ih () g e q Γ p hΓ
  | ask k ih => intro g e q Γ p hΓ; exact ih _ g e q Γ p hΓ
  | load a _ k ih =>
    intro g e q Γ p hΓ
    simp only [peekA] at e
    split at e
    · rename_i ob ho; exact ⟨ob, X _ _ ho, ih ob g e q Γ p hΓ⟩
    · cases e
  | alloc ob k _ =>
    intro g e q
    have e : some (ob, k) = some (o, g) := e
    obtain ⟨e1, e2⟩ := Prod.mk.inj (Option.some.inj e)
    subst e1
    subst e2
    show wpAny M A (alloc ob >>= k) Q E s
    exact wpAny_bind (wpAny_alloc q)
  | _ => intro g e; cases e
section
variable {prog : Program} {w : World} {A₀ A : Around} {s : Shared} {K : Frag} {base h₀ : Heap} {outer : List Env} {L : Addr} {m mg mb : Str → Option Value} {env : Env} {p : Program} {loose : List Str} {mean : ExcName → Option Value}
  {R : Result → Shared → Prop} {name qual : Str} {params : Arguments} {body : List Stmt} {scope : Scope} {dV kV doc pm cdv ct oc : Value} {an od : Option Addr} {osl : Array (Option Value)} {f : Addr} {args : Args} {vs : List Value} {g₁ : Addr → Sem (List (Str × Value))} {g₂ : Addr → Addr → Sem (List (Str × Value))} {binds : Addr → Addr → List (Str × Value)}
/-- a call of a def with *args and **kwargs, the whole heap taken as the base -/
theorem callVB (B : Below A₀ base outer h₀) (F : Fr h₀ L s.heap m) (X₀ : K.In h₀) (T : Top p loose mean mg mb h₀) (hA : A.frames = some (env :: outer)) (hf : env.frame = some L) (hke : env.scope.kind = .function)
    (ho : K.lookup f = some ⟨oc, od, .func (fnOf name qual params body scope dV kV doc pm an cdv ct), osl⟩) (hcd : codeIn K cdv qual = true) (hroom : A.depth < recursionLimit)
    (hp : peekA K ⟨prog, w.params⟩ (bindArgs (fnOf name qual params body scope dV kV doc pm an cdv ct) args) = some (({ cls := .type "tuple", data := .seq vs.toArray } : Obj), g₁))
    (hp₂ : ∀ D, peekA K ⟨prog, w.params⟩ (g₁ D) = some (dictOf [] 0, g₂ D)) (hk₂ : ∀ C D, g₂ C D = pure (binds C D)) (hloc : ∀ C D, ∀ y ∈ binds C D, scope.names.lookup y.1 = some .local)
    (h : ∀ C D L' h₁ tk, @LT.lt Nat _ C D → (D == sysModules) = false → Fr s.heap L' h₁ (fun y => (binds C D).reverse.lookup y) → News s.heap L' h₁ [(D, dictOf [] 0), (C, tupObj vs 0)] → Below A base (env :: outer) s.heap → K.In s.heap → Top p loose mean mg mb s.heap →
      wpAny (model prog w) (A.deeper (envOf qual scope L' f cdv)) (execs body (envOf qual scope L' f cdv))
        (fun fl s' => R (.ok (.ret (match fl with | .ret v => v | _ => .none))) s')
        (fun e s' => wpAny (model prog w) (A.deeper (envOf qual scope L' f cdv)) (leaving (envOf qual scope L' f cdv) e) (fun _ s'' => R (.error e) s'') (fun e' s'' => R (.error e') s'') s')
        { s with heap := h₁, toks := tk })
    (hco : scope.isCoroutine = false) (hgen : scope.isGenerator = false) (hk : scope.kind = .function) (hcell : ∀ x ∈ scope.names, x.2 ≠ .cell) : codeAny (model prog w) A (.call (.ref f) args) R s := by
  obtain ⟨_, BG, _, _⟩ := groundX (R := R) B F (News.nil) hA hf hke
  refine codeAny_call_function (fd := fnOf name qual params body scope dV kV doc pm an cdv ct) (body := body) hroom ((X₀.keeps F.keep) _ _ ho) rfl hco hgen rfl (codeRec_of (X₀.keeps F.keep) hcd) ?_
  have X1 : K.In s.heap := X₀.keeps F.keep
  have hs1 : (s.heap.push (tupObj vs 0)).objs.size = s.heap.objs.size + 1 := Heap.size_push ..
  have hs2 : ((s.heap.push (tupObj vs 0)).push (dictOf [] 0)).objs.size = s.heap.objs.size + 2 := by rw [Heap.size_push, hs1]
  refine wp_of_peekB X1 _ g₁ hp ?_
  refine wp_of_peekB (s := { s with heap := s.heap.push (tupObj vs 0) }) (X1.keeps fun b o e => Heap.get?_push_of_some _ e) _ (g₂ s.heap.objs.size) (hp₂ _) ?_
  rw [hk₂]
  refine wpAny_pure ?_
  have hlim := T.nolimit.keeps F.keep
  have up : ∀ b o, s.heap.get? b = some o → ((s.heap.push (tupObj vs 0)).push (dictOf [] 0)).get? b = some o := fun b o e => Heap.get?_push_of_some _ (Heap.get?_push_of_some _ e)
  have fresh : ∀ a, s.heap.objs.size ≤ a → s.heap.get? a = none := fun a ha => by
    cases e : s.heap.get? a with
    | none => rfl
    | some o' => exact absurd (Heap.lt_size e) (Nat.not_lt.mpr ha)
  refine wpAny_newFunctionEnv hcell (hloc _ _) (fun h₁ hns hsb => ⟨(hlim.keeps up).fresh _ hsb, codeAny_func ?_⟩) hk
  have hk₁ : ∀ b o, ((s.heap.push (tupObj vs 0)).push (dictOf [] 0)).get? b = some o → h₁.get? b = some o := fun b o e => hsb.extBut b o (Nat.ne_of_lt (Heap.lt_size e)) (Heap.get?_push_of_some _ e)
  have zD : ((s.heap.push (tupObj vs 0)).push (dictOf [] 0)).get? (s.heap.objs.size + 1) = some (dictOf [] 0) := by rw [← hs1]; exact Heap.get?_push_size _ rfl
  have zC : ((s.heap.push (tupObj vs 0)).push (dictOf [] 0)).get? s.heap.objs.size = some (tupObj vs 0) := Heap.get?_push_of_some _ (Heap.get?_push_size _ rfl)
  have hm : (s.heap.objs.size + 1 == sysModules) = false := by
    have := modules_low hlim
    have h2 : s.heap.objs.size + 1 ≠ sysModules := fun e => by rw [← e] at this; exact absurd this (Nat.not_lt.mpr (Nat.le_succ _))
    simpa using h2
  refine h s.heap.objs.size ((s.heap.push (tupObj vs 0)).objs.size) _ h₁ _ (by rw [hs1]; exact Nat.lt_succ_self _) (by rw [hs1]; exact hm) ⟨hns, fun b o e => hk₁ b o (up b o e), ?_⟩ (fun p hp => ?_) BG X1 (T.keeps F.keep)
  · show s.heap.objs.size ≤ ((s.heap.push (tupObj vs 0)).push (dictOf [] 0)).objs.size
    rw [hs2]; exact Nat.le_add_right _ _
  · show h₁.get? p.1 = some p.2 ∧ p.1 ≠ ((s.heap.push (tupObj vs 0)).push (dictOf [] 0)).objs.size ∧ s.heap.get? p.1 = none
    rw [hs2]
    rcases List.mem_cons.mp hp with rfl | hp
    · refine ⟨?_, ?_, ?_⟩
      · show h₁.get? (s.heap.push (tupObj vs 0)).objs.size = _
        rw [hs1]; exact hk₁ _ _ zD
      · show (s.heap.push (tupObj vs 0)).objs.size ≠ s.heap.objs.size + 2
        rw [hs1]; exact Nat.ne_of_lt (Nat.lt_succ_self _)
      · show s.heap.get? (s.heap.push (tupObj vs 0)).objs.size = none
        rw [hs1]; exact fresh _ (Nat.le_succ _)
    · rw [List.mem_singleton.mp hp]
      exact ⟨hk₁ _ _ zC, Nat.ne_of_lt (Nat.lt_succ_of_lt (Nat.lt_succ_self _)), fresh _ (Nat.le_refl _)⟩
end
/-- out of a frame whose base is all but nl: the caller's frame and ledger -/
theorem back_fr {h₀ g h hh : Heap} {L L' : Addr} {m : Str → Option Value} {nl rest made : List (Addr × Obj)} (F : Fr h₀ L h m) (N : News h₀ L h (nl ++ rest)) (hg : ∀ b o, b ∉ nl.map (·.1) → h.get? b = some o → g.get? b = some o) (kp : ∀ b o, g.get? b = some o → hh.get? b = some o)
    (hr : ∀ q ∈ rest, q.1 ∉ nl.map (·.1)) (M : News g L' hh made) : Fr h₀ L hh m ∧ News h₀ L hh (made ++ rest) ∧ ∀ q ∈ rest, ∀ p ∈ made, q.1 ≠ p.1 := by
  have hL : L ∉ nl.map (·.1) := fun q => by
    obtain ⟨p, hp, e⟩ := List.mem_map.mp q
    exact (N p (List.mem_append_left _ hp)).2.1 e
  have h0 : ∀ b o, h₀.get? b = some o → b ∉ nl.map (·.1) := fun b o e q => by
    obtain ⟨p, hp, rfl⟩ := List.mem_map.mp q
    rw [(N p (List.mem_append_left _ hp)).2.2] at e; cases e
  have up : ∀ b o, b ∉ nl.map (·.1) → h.get? b = some o → hh.get? b = some o := fun b o hb e => kp b o (hg b o hb e)
  refine ⟨⟨F.ns.at' fun o e => up L o hL e, fun b o e => up b o (h0 b o e) (F.keep b o e), F.above⟩, fun p hp => ?_, fun q hq p hp e => ?_⟩
  · rcases List.mem_append.mp hp with hp | hp
    · have z := M p hp
      refine ⟨z.1, fun e => ?_, ?_⟩
      · obtain ⟨oL, _, _, hLo, _⟩ := F.ns
        have := hg L oL hL hLo
        rw [← e, z.2.2] at this; cases this
      · cases q : h₀.get? p.1 with
        | none => rfl
        | some o => have := hg _ _ (h0 _ _ q) (F.keep _ _ q); rw [z.2.2] at this; cases this
    · have z := N p (List.mem_append_right _ hp)
      exact ⟨up _ _ (hr p hp) z.1, z.2⟩
  · have := hg _ _ (hr q hq) (N q (List.mem_append_right _ hq)).1
    rw [e, (M p hp).2.2] at this; cases this
/-- a contract of a def that may draw an order -/
noncomputable def CtrD (w : World) (f : Addr) (dep : Nat) (vs : List Value) (Pre : Heap → Prop) (Out : List (Addr × Obj) → Value → Prop) : Prop :=
  ∀ (mean : ExcName → Option Value) (mg mb : Str → Option Value) (dp un : Nat) (gd : Option (List Code)) (cn : Str) (cs : Scope) (a : Addr) (ccd : Value) (cl : List (Str × Addr)) (outer : List Env) (A₀ : Around) (base h₀ : Heap) (L : Addr) (m : Str → Option Value) (s : Shared)
    (Q E : Value → Shared → Prop),
    Below A₀ base outer h₀ → Fr h₀ L s.heap m → (Mine.hd.heap_1 w.params).In h₀ → Top Mine.hd.view_1 (looseW Mine.hd.view_1 []) mean mg mb h₀ → cs.kind = .function → Pre s.heap → dp + dep < recursionLimit → un + 8 * dep < cLine →
    (∀ r tl h' tk' d', (∀ b o, s.heap.get? b = some o → h'.get? b = some o) → (∀ p ∈ tl, h'.get? p.1 = some p.2 ∧ s.heap.get? p.1 = none) → Out tl r → Q r { s with heap := h', toks := tk', drawn := d' }) →
    wpAny (model PySem.Challenge.rw_pg0115_01.row.prog w) (ktrTop dp un gd cn cs L a ccd cl outer) (call (.ref f) vs) Q E s
end Mine
open PySem PySem.W PyProof.Rows
set_option Elab.async false
namespace Mine
open PyProof.Rows.LCg
section
variable {prog : Program} {w : World} {A : Around} {E : Value → Shared → Prop} {s : Shared} {h₀ : Heap} {L : Addr} {m : Str → Option Value} {env : Env}
/-- what an element leaves behind -/
noncomputable def CEnd (h₀ : Heap) (L : Addr) (m : Str → Option Value) (s₁ : Shared) (I : Addr) (oI : Obj) (C : Addr) (oC : Obj) (D : Addr) (oD : Obj) (rest : Value → List (Addr × Obj) → Prop) (y : Value) (s₂ : Shared) : Prop :=
  ∃ h' tk d news', s₂ = { s₁ with heap := h', toks := tk, drawn := d } ∧ Fr h₀ L h' m ∧ News h₀ L h' ((I, oI) :: (C, oC) :: (D, oD) :: news') ∧ Off3 I C D news' ∧ rest y news'
structure Comp2 (prog : Program) (w : World) (A : Around) (h₀ : Heap) (L : Addr) (m : Str → Option Value) (env : Env) (elt : Expr) (x x₂ : Str) (scope : Scope) (cl : List (Str × Addr)) (s : Shared) (ax : Addr) (its : List Value) (J : Nat → List Value → List (Addr × Obj) → Prop) : Prop where
  src : ∀ i ys nx h, J i ys nx → Fr h₀ L h m → News h₀ L h nx → h.IsList ax its.toArray
  tup : ∀ i ys nx h v, J i ys nx → its[i]? = some v → Fr h₀ L h m → News h₀ L h nx → ∃ a v₁ v₂, v = .ref a ∧ IsTup h a #[v₁, v₂] ∧
    ∀ I oI C oC D m₂ h tk d (E' : Value → Shared → Prop), NsObj oC m₂ → m₂ x = some v₁ → m₂ x₂ = some v₂ → Fr h₀ L h m → News h₀ L h ((I, oI) :: (C, oC) :: (D, lst ys) :: nx) → Off3 I C D nx → ((@Ne Nat I C) ∧ (@Ne Nat I D) ∧ (@Ne Nat C D)) →
      wpAny (model prog w) A (eval elt (compEnvC scope cl C env)) (CEnd h₀ L m { s with heap := h, toks := tk, drawn := d } I oI C oC D (lst ys) (fun y nx' => J (i + 1) (ys ++ [y]) nx')) E' { s with heap := h, toks := tk, drawn := d }
theorem comp2_block {elt iter : Expr} {x x₂ : Str} {px px₂ tp : Pos} {tk} {scope : Scope} {cl : List (Str × Addr)} {pos : Pos} {s₁ : Shared} {ax : Addr} {its : List Value} {news : List (Addr × Obj)} {J : Nat → List Value → List (Addr × Obj) → Prop} {RR : Value → Addr → Result → Shared → Prop}
    (hsz : its.length ≤ sizeLine) (hcell : ∀ y ∈ scope.names, y.2 ≠ .cell) (hkind : scope.kind = .function) (hx : scope.names.lookup x = some .local) (hx₂ : scope.names.lookup x₂ = some .local) (hxx : x ≠ x₂) (hh : A.handled = none)
    (F : Fr h₀ L s₁.heap m) (N : News h₀ L s₁.heap news) (J0 : J 0 [] news) (R : Comp2 prog w A h₀ L m env elt x x₂ scope cl s₁ ax its J)
    (hRR : ∀ D C h tk d m' ys news', Fr h₀ L h m → News h₀ L h ((D, lst ys) :: news') → Off1 D news' → h.Ns C m' → h₀.get? C = none → h₀.get? D = none → C ≠ L → D ≠ L → C ≠ D → (∀ p ∈ news', p.1 ≠ C) → J its.length ys news' → RR (.ref D) C (.ok .next) { s₁ with heap := h, toks := tk, drawn := d }) :
    wpAny (model prog w) A (pyIter (.ref ax)) (fun it s₂ => wpAny (model prog w) A (newList []) (fun acc s₃ => wpAny (model prog w) A (newFunctionEnv scope env.globals cl [] env.qual none .none (some env)) (fun cenv s₄ =>
      codeAny (model prog w) A (.compStart (.ListComp elt [⟨.Tuple [.Name x px, .Name x₂ px₂] tk tp, iter, [], 0⟩] scope pos) 0 it acc { cenv with scope := relabel scope env }) (RR acc cenv.locals) s₄) E s₃) E s₂) E s₁ := by
  have hl := R.src 0 [] news s₁.heap J0 F N
  have hlt : ax < s₁.heap.objs.size := by obtain ⟨_, e, _⟩ := hl; exact Heap.lt_size e
  refine wpAny_pyIter_list hl ?_
  generalize hI : s₁.heap.objs.size = I at hlt
  have hax : ax ≠ I := Nat.ne_of_lt hlt
  have up0 : ∀ b o, s₁.heap.get? b = some o → (s₁.heap.push { cls := .type "list_iterator", data := .fields #[.ref ax, .int 0 0] }).get? b = some o := fun b o e => Heap.get?_push_of_some _ e
  have hit0 : (s₁.heap.push { cls := .type "list_iterator", data := .fields #[.ref ax, .int 0 0] }).IsListIter I ax 0 := ⟨_, hI ▸ Heap.get?_push_size _ rfl, rfl, rfl⟩
  have hsize0 : (s₁.heap.push { cls := .type "list_iterator", data := .fields #[.ref ax, .int 0 0] }).objs.size = I + 1 := by rw [Heap.size_push, hI]
  have hLlt : L < I := by rw [← hI]; exact F.ns.lt
  have nlt : ∀ p ∈ news, p.1 < I := fun p hp => by rw [← hI]; exact Heap.lt_size (N p hp).1
  have F0 := F.keeps up0
  have N0 := N.grown up0
  generalize s₁.heap.push { cls := .type "list_iterator", data := .fields #[.ref ax, .int 0 0] } = H1 at up0 hit0 hsize0 F0 N0
  have hIo : H1.get? I = some _ := hit0.choose_spec.1
  have hI₀ : h₀.get? I = none := by
    cases e : h₀.get? I with
    | none => rfl
    | some o => have := Heap.lt_size (F.keep I o e); rw [hI] at this; exact absurd this (Nat.lt_irrefl _)
  refine wpAny_newObj_type (wpAny_newFunctionEnv hcell (by intro y hy; simp at hy) (fun h₁ hns₁ hsb₁ => ?_) hkind)
  dsimp only at hns₁ hsb₁ ⊢
  generalize hH2 : H1.push { cls := .type "list", dict := none, data := .seq ([] : List Value).toArray } = H2 at hns₁ hsb₁ ⊢
  have hC : H2.objs.size = I + 2 := by rw [← hH2, Heap.size_push, hsize0]
  rw [hC] at hns₁ hsb₁ ⊢
  rw [hsize0]
  have old : ∀ b o, H1.get? b = some o → h₁.get? b = some o := fun b o e => by
    have hb := Heap.lt_size e
    rw [hsize0] at hb
    exact hsb₁.extBut b o (by show b ≠ I + 2; exact Nat.ne_of_lt (Nat.lt_of_lt_of_le hb (Nat.le_succ _))) (Heap.get?_push_of_some _ (by rw [← hH2]; exact Heap.get?_push_of_some _ e))
  have hacc : h₁.get? (I + 1) = some (lst []) := hsb₁.extBut _ _ (by show I + 1 ≠ I + 2; exact Nat.ne_of_lt (Nat.lt_succ_self _)) (Heap.get?_push_of_some _ (by rw [← hH2, ← hsize0]; exact Heap.get?_push_size _ rfl))
  have fresh₀ : ∀ a, I ≤ a → h₀.get? a = none := fun a ha => by
    cases e : h₀.get? a with
    | none => rfl
    | some o' => have := Heap.lt_size (F.keep a o' e); rw [hI] at this; exact absurd this (Nat.not_lt.mpr ha)
  have hD₀ := fresh₀ (I + 1) (Nat.le_succ _)
  have hC₀ := fresh₀ (I + 2) (Nat.le_add_right _ _)
  have hIL : L ≠ I := Nat.ne_of_lt hLlt
  have hDL : I + 1 ≠ L := Nat.ne_of_gt (Nat.lt_succ_of_lt hLlt)
  have hCL : I + 2 ≠ L := Nat.ne_of_gt (Nat.lt_succ_of_lt (Nat.lt_succ_of_lt hLlt))
  have hCI : I ≠ I + 2 := Nat.ne_of_lt (Nat.lt_succ_of_lt (Nat.lt_succ_self _))
  have hDI : I ≠ I + 1 := Nat.ne_of_lt (Nat.lt_succ_self _)
  have hDC : I + 1 ≠ I + 2 := Nat.ne_of_lt (Nat.lt_succ_self _)
  have off₀ : Off3 I (I + 2) (I + 1) news := Off3.of fun p hp => ⟨Nat.ne_of_lt (nlt p hp), Nat.ne_of_lt (Nat.lt_succ_of_lt (Nat.lt_succ_of_lt (nlt p hp))), Nat.ne_of_lt (Nat.lt_succ_of_lt (nlt p hp))⟩
  have loop : ∀ tk₀ : Nat, codeAny (model prog w) A (.compLoop (.ListComp elt [⟨.Tuple [.Name x px, .Name x₂ px₂] tk tp, iter, [], 0⟩] scope pos) 0 (.ref I) (.ref (I + 1)) (compEnvC scope cl (I + 2) env)) (RR (.ref (I + 1)) (I + 2)) { s₁ with heap := h₁, toks := tk₀ } := by
    intro tk₀
    refine LCp.codeAny_compLoop_pair
      (fun k s' => ∃ h' tk d i ys m' news', s' = { s₁ with heap := h', toks := tk, drawn := d } ∧ i ≤ its.length ∧ k = its.length + 1 - i ∧ ys.length = i ∧ h'.IsListIter I ax i ∧ Fr h₀ L h' m ∧ h'.Ns (I + 2) m' ∧ News h₀ L h' ((I + 1, lst ys) :: news') ∧
        Off3 I (I + 2) (I + 1) news' ∧ J i ys news') ?_ (its.length + 1)
      ⟨h₁, tk₀, s₁.drawn, 0, [], _, news, rfl, Nat.zero_le _, rfl, rfl, hit0.at fun o e => old _ o e, F0.keeps old, hns₁, fun p hp => ?_, off₀, J0⟩
    · rintro k s' ⟨h', tk', d', i, ys, m', news', rfl, hi, rfl, hyl, hit', F', hn', N', off', J'⟩
      have off3 := off'.mem
      have N'' : News h₀ L h' news' := fun p hp => N' p (List.mem_cons_of_mem _ hp)
      have hl' := R.src i ys news' h' J' F' N''
      by_cases hlt : i < its.length
      · refine wpAny_pyNext_list_item hit' hl' (x := its[i]) (by simp [hlt]) fun h₂ hit₂ hs₂ => ?_
        have up₂ : ∀ b o, b ≠ I → h'.get? b = some o → h₂.get? b = some o := fun b o hb e => hs₂.extBut b o hb e
        have F₂ : Fr h₀ L h₂ m := ⟨F'.ns.at' fun o e => up₂ L o hIL e, fun b o e => up₂ b o (fun q => by rw [q, hI₀] at e; cases e) (F'.keep b o e), F'.above⟩
        have N₂ : News h₀ L h₂ ((I + 1, lst ys) :: news') := fun p hp => ⟨up₂ _ _ (by
          rcases List.mem_cons.mp hp with rfl | hp
          · exact Ne.symm hDI
          · exact (off3 p hp).1) (N' p hp).1, (N' p hp).2⟩
        obtain ⟨a, v₁, v₂, hv, hT, T⟩ := R.tup i ys news' h₂ its[i] J' (List.getElem?_eq_getElem hlt) F₂ (fun p hp => N₂ p (List.mem_cons_of_mem _ hp))
        rw [hv]
        refine wpAny_letOwnedTupleGo_listiter hit₂ ?_
        refine assign_Tuple_tuple hh hT rfl rfl fun h₅ he => ?_
        have he' : ∀ b o, h₂.get? b = some o → h₅.get? b = some o := fun b o e => he b o (Nat.ne_of_lt (Heap.lt_size e)) e
        refine assignInOrder_cons (wpAny_assign_Name (wpAny_storeName_local (lookup_relabel_local hx) ((hn'.at' fun o e => up₂ _ o (Ne.symm hCI) e).at' fun o e => he' _ o e) (fun h₆ hn₆ hs₆ => ?_) (by simp [compEnvC, relabel, hkind])))
        refine assignInOrder_cons (wpAny_assign_Name (wpAny_storeName_local (lookup_relabel_local hx₂) hn₆ (fun h₃ hn₃ hs₃ => ?_) (by simp [compEnvC, relabel, hkind])))
        refine assignInOrder_nil ?_
        have up3 : ∀ b o, b ≠ I + 2 → h₂.get? b = some o → h₃.get? b = some o := fun b o hb e => hs₃.extBut b o hb (hs₆.extBut b o hb (he' b o e))
        have hit₃ : h₃.IsListIter I ax (i + 1) := hit₂.at fun o e => up3 I o hCI e
        obtain ⟨oI, heI, hcI, hdI⟩ := id hit₃
        obtain ⟨oC, heC, hoC⟩ := ns_obj hn₃
        have F₃ : Fr h₀ L h₃ m := ((F₂.keeps he').change hs₆ hCL hC₀).change hs₃ hCL hC₀
        have N₃ : News h₀ L h₃ ((I, oI) :: (I + 2, oC) :: (I + 1, lst ys) :: news') := fun p hp => by
          rcases List.mem_cons.mp hp with rfl | hp
          · exact ⟨heI, Ne.symm hIL, hI₀⟩
          · rcases List.mem_cons.mp hp with rfl | hp
            · exact ⟨heC, hCL, hC₀⟩
            · have z := N₂ p hp
              refine ⟨up3 _ _ ?_ z.1, z.2⟩
              rcases List.mem_cons.mp hp with rfl | hp
              · exact hDC
              · exact (off3 p hp).2.1
        refine wpAny_mono (T I oI (I + 2) oC (I + 1) _ h₃ _ _ _ hoC (by simp [hxx]) (by simp) F₃ N₃ off' ⟨hCI, hDI, Ne.symm hDC⟩) (fun y s₄ h₄ => ?_) fun _ _ e => e
        obtain ⟨h₄, tk₄, d₄, news₄, rfl, F₄, N₄, off₄, J₄⟩ := h₄
        have zI := (N₄ (I, oI) List.mem_cons_self).1
        have zC := (N₄ (I + 2, oC) (List.mem_cons_of_mem _ List.mem_cons_self)).1
        have zD := (N₄ (I + 1, lst ys) (List.mem_cons_of_mem _ (List.mem_cons_of_mem _ List.mem_cons_self))).1
        have N₄' : News h₀ L h₄ news₄ := fun p hp => N₄ p (List.mem_cons_of_mem _ (List.mem_cons_of_mem _ (List.mem_cons_of_mem _ hp)))
        refine append_at (hsz := by show ys.toArray.size ≤ sizeLine; rw [List.size_toArray, hyl]; exact Nat.le_trans hi hsz) zD fun h₅ hs₅ hD₅ => ?_
        have off4 := off₄.mem
        refine ⟨its.length + 1 - (i + 1), by omega, h₅, tk₄, d₄, i + 1, ys ++ [y], _, news₄, rfl, hlt, rfl, by rw [List.length_append, List.length_singleton, hyl], ⟨oI, hs₅.extBut _ _ hDI zI, hcI, hdI⟩, F₄.change hs₅ hDL hD₀,
          (hoC.ns zC).sameBut hs₅ (Ne.symm hDC), fun p hp => ?_, off₄, J₄⟩
        rcases List.mem_cons.mp hp with rfl | hp
        · exact ⟨hD₅.trans (congrArg some (lst_snoc ys y)), hDL, hD₀⟩
        · exact ⟨hs₅.extBut _ _ (off4 p hp).2.2 (N₄' p hp).1, (N₄' p hp).2⟩
      · obtain rfl : i = its.length := Nat.le_antisymm hi (Nat.not_lt.mp hlt)
        refine wpAny_pyNext_list_end hh hit' hl' (by simp) fun h₂ he₂ => ?_
        have up₂ : ∀ b o, b ≠ I → h'.get? b = some o → h₂.get? b = some o := fun b o hb e => he₂ b o hb e
        exact hRR _ _ h₂ tk' d' _ ys news' ⟨F'.ns.at' fun o e => up₂ L o hIL e, fun b o e => up₂ b o (fun q => by rw [q, hI₀] at e; cases e) (F'.keep b o e), F'.above⟩
          (fun p hp => ⟨up₂ _ _ (by
            rcases List.mem_cons.mp hp with rfl | hp
            · exact Ne.symm hDI
            · exact (off3 p hp).1) (N' p hp).1, (N' p hp).2⟩) off'.one (hn'.at' fun o e => up₂ _ o (Ne.symm hCI) e) hC₀ hD₀ hCL hDL (Ne.symm hDC) (fun p hp => (off3 p hp).2.1) J'
    · rcases List.mem_cons.mp hp with rfl | hp
      · exact ⟨hacc, hDL, hD₀⟩
      · exact ⟨old _ _ (N0 p hp).1, (N0 p hp).2⟩
  exact codeAny_compStart_list (loop _) (wpAny_pyIter_listiter ((hit0.at fun o e => old _ o e)) (loop _))

noncomputable def Go2 (elt : Expr) (x x₂ : Str) (scope : Scope) (cl : List (Str × Addr)) (FF : Addr → Heap → Prop) (QQ : Addr → Shared → Prop) (xv : Value) (s₁ : Shared) : Prop :=
  ∃ (ax : Addr) (its : List Value) (news : List (Addr × Obj)) (J : Nat → List Value → List (Addr × Obj) → Prop), xv = .ref ax ∧ Fr h₀ L s₁.heap m ∧ News h₀ L s₁.heap news ∧ J 0 [] news ∧ List.length its ≤ sizeLine ∧ Comp2 prog w A h₀ L m env elt x x₂ scope cl s₁ ax its J ∧
    (∀ D h tk d ys news', FF D h → News h₀ L h ((D, lst ys) :: news') → Off1 D news' → J its.length ys news' → QQ D { s₁ with heap := h, toks := tk, drawn := d })
theorem comp2_eval {elt iter : Expr} {x x₂ : Str} {px px₂ tp : Pos} {tk} {scope : Scope} {cl : List (Str × Addr)} {pos : Pos} {Q : Value → Shared → Prop}
    (hclos : closureFor scope env = pure cl) (hcell : ∀ y ∈ scope.names, y.2 ≠ .cell) (hkind : scope.kind = .function)
    (hnames : ∀ y ∈ scope.names, y.2 = .local → scope.names.lookup y.1 = some .local) (hx : scope.names.lookup x = some .local) (hx₂ : scope.names.lookup x₂ = some .local) (hxx : x ≠ x₂) (hh : A.handled = none)
    (h : wpAny (model prog w) A (eval iter env) (Go2 (prog := prog) (w := w) (A := A) (h₀ := h₀) (L := L) (m := m) (env := env) elt x x₂ scope cl (fun _ h => Fr h₀ L h m) (fun D => Q (.ref D))) E s)
    (hs : ∀ x, foldedSetIterable iter env x = pure x := by intro _; rfl) :
    wpAny (model prog w) A (eval (.ListComp elt [⟨.Tuple [.Name x px, .Name x₂ px₂] tk tp, iter, [], 0⟩] scope pos) env) Q E s := by
  rw [eval_ListComp]
  refine wpAny_comprehension_free (use := none) rfl hs hclos hkind hnames (wpAny_mono h (fun xv s₁ h₁ => ?_) fun _ _ e => e)
  obtain ⟨ax, its, news, J, rfl, F, N, J0, hsz, R, fin⟩ := h₁
  refine comp2_block hsz hcell hkind hx hx₂ hxx hh F N J0 R ?_
  intro D C h' tk d m' ys news' F' N' o1 hn hC₀ hD₀ hCL hDL hCD offC J'
  refine ⟨m', hn, fun h'' hs'' => fin D h'' tk d ys news' (F'.change hs'' hCL hC₀) (fun p hp => ⟨hs''.extBut _ _ ?_ (N' p hp).1, (N' p hp).2⟩) o1 J'⟩
  rcases List.mem_cons.mp hp with rfl | hp
  · exact Ne.symm hCD
  · exact offC p hp
theorem comp2_assign {elt iter : Expr} {x x₂ y : Str} {px px₂ tp py : Pos} {tk} {scope : Scope} {cl : List (Str × Addr)} {pos spos : Pos} {Q : Flow → Shared → Prop} (hLe : env.locals = L)
    (hsw : swapsWith (.ListComp elt [⟨.Tuple [.Name x px, .Name x₂ px₂] tk tp, iter, [], 0⟩] scope pos) (some (.Name y py)) spos.line env = pure true)
    (hclos : closureFor scope env = pure cl) (hcell : ∀ z ∈ scope.names, z.2 ≠ .cell) (hkind : scope.kind = .function)
    (hnames : ∀ z ∈ scope.names, z.2 = .local → scope.names.lookup z.1 = some .local) (hx : scope.names.lookup x = some .local) (hx₂ : scope.names.lookup x₂ = some .local) (hxx : x ≠ x₂) (hh : A.handled = none)
    (hy : env.kindOf y = some .local) (hp : (env.scope.kind == .class || (env.scope.kind == .module && env.locals != env.globals)) = false)
    (h : wpAny (model prog w) A (eval iter env) (Go2 (prog := prog) (w := w) (A := A) (h₀ := h₀) (L := L) (m := m) (env := env) elt x x₂ scope cl (fun D h => Fr h₀ L h (fun z => if z = y then some (.ref D) else m z)) (fun _ => Q .next)) E s)
    (hs : ∀ x, foldedSetIterable iter env x = pure x := by intro _; rfl) :
    wpAny (model prog w) A (exec (.Assign [.Name y py] (.ListComp elt [⟨.Tuple [.Name x px, .Name x₂ px₂] tk tp, iter, [], 0⟩] scope pos) spos) env) Q E s := by
  subst hLe
  rw [exec_Assign_Name_used _ _ _ _ hsw]
  refine wpAny_bind (wpAny_standAt (wpAny_bind ?_))
  show wpAny _ A (do let _ ← comprehension (.ListComp elt [⟨.Tuple [.Name x px, .Name x₂ px₂] tk tp, iter, [], 0⟩] scope pos) scope env _ (newList []) false (eval iter env) (some (assign (.Name y py) env))) _ _ s
  refine wpAny_bind (wpAny_mono (wpAny_comprehension_free (use := some (assign (.Name y py) env)) (Q := fun _ s' => Q .next s') rfl hs hclos hkind hnames
    (wpAny_mono h (fun xv s₁ h₁ => ?_) fun _ _ e => e)) (fun _ s' hq => wpAny_pure (wpAny_pure hq)) fun _ _ e => e)
  obtain ⟨ax, its, news, J, rfl, F, N, J0, hsz, R, fin⟩ := h₁
  refine comp2_block hsz hcell hkind hx hx₂ hxx hh F N J0 R ?_
  intro D C h' tk d m' ys news' F' N' o1 hn hC₀ hD₀ hCL hDL hCD offC J'
  show wpAny _ A (assign (.Name y py) env (.ref D)) _ _ _
  refine wpAny_assign_Name (wpAny_storeName_local hy F'.ns (fun h₂ hn₂ hs₂ => ?_) hp)
  have hL₀ : h₀.get? env.locals = none := Heap.get?_none_of_le F'.above
  have F₂ : Fr h₀ env.locals h₂ (fun z => if z = y then some (.ref D) else m z) := ⟨hn₂, fun b o e => hs₂.extBut b o (fun q => by rw [q, hL₀] at e; cases e) (F'.keep b o e), F'.above⟩
  refine ⟨m', hn.sameBut hs₂ hCL, fun h'' hs'' => fin D h'' _ d ys news' (F₂.change hs'' hCL hC₀) (fun p hp => ?_) o1 J'⟩
  have z : h₂.get? p.1 = some p.2 := hs₂.extBut _ _ (N' p hp).2.1 (N' p hp).1
  refine ⟨hs''.extBut _ _ ?_ z, (N' p hp).2⟩
  rcases List.mem_cons.mp hp with rfl | hp
  · exact Ne.symm hCD
  · exact offC p hp
end
end Mine
open PySem PySem.W PyProof.Rows
set_option Elab.async false
namespace Mine
open PyProof.Rows.LCg
section
variable {prog : Program} {w : World} {A : Around} {E : Value → Shared → Prop} {s : Shared} {h₀ : Heap} {L : Addr} {m : Str → Option Value} {env : Env}
noncomputable def CEnd1 (h₀ : Heap) (L : Addr) (m : Str → Option Value) (s₁ : Shared) (I : Addr) (oI : Obj) (C : Addr) (oC : Obj) (D : Addr) (oD : Obj) (rest : Value → List (Addr × Obj) → Prop) (y : Value) (s₂ : Shared) : Prop :=
  ∃ h' tk' nx', s₂ = { s₁ with heap := h', toks := tk' } ∧ Fr h₀ L h' m ∧ News h₀ L h' ((I, oI) :: (C, oC) :: (D, oD) :: nx') ∧ Off3 I C D nx' ∧ rest y nx'
noncomputable def Turn1 (prog : Program) (w : World) (A : Around) (h₀ : Heap) (L : Addr) (m : Str → Option Value) (env : Env) (elt : Expr) (x : Str) (scope : Scope) (cl : List (Str × Addr)) (s : Shared) (P : Nat → Value → Prop) (J : Nat → List Value → List (Addr × Obj) → Prop) : Prop :=
  ∀ i v ys nx I oI C oC D m₂ g h tk (E' : Value → Shared → Prop), P i v → J i ys nx → NsObj oC m₂ → m₂ x = some v → Fr h₀ L h m → News h₀ L h ((I, oI) :: (C, oC) :: (D, lst ys) :: nx) → Off3 I C D nx → ((@Ne Nat I C) ∧ (@Ne Nat I D) ∧ (@Ne Nat C D)) →
    wpAny (model prog w) A (eval elt (compEnvC scope cl C env)) (CEnd1 h₀ L m { s with heap := g } I oI C oC D (lst ys) (fun y nx' => J (i + 1) (ys ++ [y]) nx')) E' { { s with heap := g } with heap := h, toks := tk }
theorem rest_of {elt : Expr} {x : Str} {scope : Scope} {cl : List (Str × Addr)} {s : Shared} {S : List (Addr × Obj) → Prop} {P : Nat → Value → Prop} {J : Nat → List Value → List (Addr × Obj) → Prop} {Fin : List Value → List (Addr × Obj) → Prop} {n : Nat} {g : Heap}
    (T : Turn1 prog w A h₀ L m env elt x scope cl s (fun i v => i < n ∧ P i v) J) (hS : ∀ i ys nx, J i ys nx → S nx) (hF : ∀ ys nx, J n ys nx → Fin ys nx) :
    ∀ k i ys nx, i + k = n → J i ys nx → CompRest prog w A h₀ L m env elt x scope cl { s with heap := g } S P Fin k i ys nx
  | 0, i, ys, nx, hk, hj => CompRest.zero (hF ys nx (by rw [← hk]; exact hj))
  | k + 1, i, ys, nx, hk, hj => CompRest.succ fun v I oI C oC D m₂ h tk E' hP hC hx F N off ne =>
    wpAny_mono (T i v ys nx I oI C oC D m₂ g h tk E' ⟨by omega, hP⟩ hj hC hx F N off ne) (fun y s₂ ⟨h', tk', nx', e, F', N', off', hj'⟩ => ⟨h', tk', nx', e, F', N', off', hS _ _ _ hj', rest_of T hS hF k (i + 1) _ _ (by omega) hj'⟩) fun _ _ e => e
noncomputable def Go1 (elt : Expr) (x : Str) (scope : Scope) (cl : List (Str × Addr)) (FF : Addr → Heap → Prop) (QQ : Addr → Shared → Prop) (xv : Value) (s₁ : Shared) : Prop :=
  ∃ (ax : Addr) (its : List Value) (k : Nat) (news : List (Addr × Obj)) (J : Nat → List Value → List (Addr × Obj) → Prop), xv = .ref ax ∧ Fr h₀ L s₁.heap m ∧ News h₀ L s₁.heap news ∧ J 0 [] news ∧ its.length ≤ sizeLine ∧
    (∀ i ys nx, J i ys nx → (ax, W.listOf its.toArray k) ∈ nx) ∧ Turn1 prog w A h₀ L m env elt x scope cl s₁ (fun i v => its[i]? = some v) J ∧
    (∀ D h tk ys news', FF D h → News h₀ L h ((D, lst ys) :: news') → Off1 D news' → J its.length ys news' → QQ D { s₁ with heap := h, toks := tk })
theorem comp1_eval {elt iter : Expr} {x : Str} {px : Pos} {scope : Scope} {cl : List (Str × Addr)} {pos : Pos} {Q : Value → Shared → Prop} (F₀ : Fr h₀ L s.heap m) (hh : A.handled = none)
    (hclos : closureFor scope env = pure cl) (hcell : ∀ y ∈ scope.names, y.2 ≠ .cell) (hkind : scope.kind = .function)
    (hnames : ∀ y ∈ scope.names, y.2 = .local → scope.names.lookup y.1 = some .local) (hx : scope.names.lookup x = some .local)
    (h : wpAny (model prog w) A (eval iter env) (Go1 (prog := prog) (w := w) (A := A) (h₀ := h₀) (L := L) (m := m) (env := env) elt x scope cl (fun _ h => Fr h₀ L h m) (fun D => Q (.ref D))) E s)
    (hs : ∀ x, foldedSetIterable iter env x = pure x := by intro _; rfl) :
    wpAny (model prog w) A (eval (.ListComp elt [⟨.Name x px, iter, [], 0⟩] scope pos) env) Q E s := by
  refine ListComp_U F₀ hclos hcell hkind hnames hx (wpAny_mono h (fun xv s₁ h₁ => ?_) fun _ _ e => e) hs
  obtain ⟨ax, its, k, news, J, rfl, F, N, J0, hsz, hm, T, fin⟩ := h₁
  refine CompSrc.ledger hh F N (hm 0 [] news J0) (by rw [List.size_toArray]; exact hsz) fun g => ?_
  rw [List.size_toArray]
  refine rest_of (n := its.length) (P := fun i v => its.toArray[i]? = some v) (fun i v ys nx I oI C oC D m₂ g h tk E' hP => T i v ys nx I oI C oC D m₂ g h tk E' (by simpa using hP.2)) (fun i ys nx hj => .inr ⟨_, hm i ys nx hj, rfl, _, rfl⟩) (fun ys nx hj => fun D h tk F' N' o1 => fin D h tk ys nx F' N' o1 hj) _ _ _ _ (Nat.zero_add _) J0
end
end Mine
open PySem PySem.W PyProof.Rows
set_option Elab.async false
namespace Mine
theorem w_clear_Du : True := by
  w_top off
  k_with_none
  k_with "callWith" => (k_here; (with_reducible show wpAny _ _ (callWith _ (Value.builtin _) (_ :: _) (backTo _ (starEach (_ :: _) _)) []) _ _ _); (with_reducible refine' PyProof.Rows.callWith_method1 ?_ ?he ?hp); (case he => k_dflt rfl); (case hp => k_dflt rfl))
  k_with "callWith" => (k_here; (with_reducible show wpAny _ _ (callWith _ (Value.builtin _) [] (backTo _ (starEach (_ :: _) _)) []) _ _ _); (with_reducible refine' PyProof.Rows.callWith_builtin1 ?_ ?he ?hp); (case he => k_dflt rfl); (case hp => k_dflt rfl))
  trivial
noncomputable def duDef : Option (List Stmt × Scope) := findDef (Str.ofString "_law_due") PySem.Challenge.pw_pg0115_01.main.body
noncomputable def duScope : Option Scope := match duDef with | some (_, sc) => some sc | none => none
noncomputable def duBody : Option (List Stmt) := match duDef with | some (b, _) => some b | none => none
noncomputable def duSt (i : Nat) : Option Stmt := duDef.bind fun d => d.1[i]?
noncomputable def forSt (t : Option Stmt) (i : Nat) : Option Stmt := t.bind fun t => match t with | .For _ _ body _ _ => body[i]? | _ => none
noncomputable def ifSt (t : Option Stmt) (i : Nat) : Option Stmt := t.bind fun t => match t with | .If _ body _ _ => body[i]? | _ => none
noncomputable def duTurn (i : Nat) : Option Stmt := forSt (duSt 2) i
noncomputable def duIf (i : Nat) : Option Stmt := ifSt (duTurn 0) i
noncomputable def duIf2 (i : Nat) : Option Stmt := ifSt (duIf 2) i
noncomputable abbrev duName : Str := Str.ofString "_law_due"
/-- tuples of two whole numbers that stand in the heap -/
inductive PairsIn (h : Heap) : List Value → List (Int × Int) → Prop
  | nil : PairsIn h [] []
  | cons {a : Addr} {x y : Int} {t1 t2 : Tok} {n : Nat} {vs xs} : h.get? a = some (tupObj [.int x t1, .int y t2] n) → PairsIn h vs xs → PairsIn h (.ref a :: vs) ((x, y) :: xs)
theorem PairsIn.at {h : Heap} : ∀ {vs : List Value} {xs : List (Int × Int)}, PairsIn h vs xs → ∀ {i : Nat} {v : Value}, vs[i]? = some v → ∃ a x y t1 t2 n, v = .ref a ∧ xs[i]? = some (x, y) ∧ h.get? a = some (tupObj [.int x t1, .int y t2] n)
  | _, _, .nil, i, v, hv => by simp at hv
  | _, _, .cons ho hr, 0, v, hv => by
    simp only [List.getElem?_cons_zero, Option.some.injEq] at hv
    subst hv
    exact ⟨_, _, _, _, _, _, rfl, rfl, ho⟩
  | _, _, .cons ho hr, i + 1, v, hv => by
    simp only [List.getElem?_cons_succ] at hv ⊢
    exact PairsIn.at hr hv
theorem PairsIn.length {h : Heap} : ∀ {vs : List Value} {xs : List (Int × Int)}, PairsIn h vs xs → vs.length = xs.length
  | _, _, .nil => rfl
  | _, _, .cons _ hr => congrArg (· + 1) hr.length
theorem PairsIn.ref {h : Heap} : ∀ {vs : List Value} {xs : List (Int × Int)}, PairsIn h vs xs → ∀ v ∈ vs, ∃ a, v = .ref a
  | _, _, .cons (a := a) ho hr, v, hv => by
    rcases List.mem_cons.mp hv with rfl | hv
    · exact ⟨a, rfl⟩
    · exact hr.ref v hv
noncomputable def hitC (p : Int) (c : Int × Int) : Bool := (p - c.1).fmod (4 ^ c.2.toNat) == 0
noncomputable def hitS (l : Int) (c : Int × Int) : Bool := l.fdiv (4 ^ (2 - c.2).toNat) == c.1
theorem any_take {α : Type} {f : α → Bool} {xs : List α} {i : Nat} {x : α} (h : xs[i]? = some x) : (xs.take (i + 1)).any f = ((xs.take i).any f || f x) := by
  rw [List.take_add_one, h]
  simp
noncomputable def nsN : List Str := ["number", "size"].map Str.ofString
noncomputable def DuJ (m : Str → Option Value) (news : List (Addr × Obj)) (B : Nat → Bool) (i : Nat) (m' : Str → Option Value) (nx : List (Addr × Obj)) : Prop :=
  ∃ u : Str → Option Value, m' = (fun y => if y = Str.ofString "left" then some (.bool (B i)) else if nsN.contains y = true then u y else m y) ∧ nx = news
theorem hitC_t {p x y : Int} (h : (p - x).fmod (4 ^ y.toNat) = 0) : hitC p (x, y) = true := by simp [hitC, h]
theorem hitC_f {p x y : Int} (h : (p - x).fmod (4 ^ y.toNat) ≠ 0) : hitC p (x, y) = false := by simp [hitC, h]
theorem hitS_t {l x y : Int} (h : l.fdiv (4 ^ (2 - y).toNat) = x) : hitS l (x, y) = true := by simp [hitS, h]
theorem hitS_f {l x y : Int} (h : l.fdiv (4 ^ (2 - y).toNat) ≠ x) : hitS l (x, y) = false := by simp [hitS, h]
theorem not_in {ns : List Str} {y : Str} (hy : ns.contains y = false) {x : Str} (hx : ns.contains x = true) : ¬ y = x := by
  rintro rfl; rw [hx] at hy; cases hy
theorem map_close {mf km : Str → Option Value} {x : Str} {v : Value} {ns : List Str} (e1 : mf x = some v) (e2 : ∀ y, ¬ y = x → ns.contains y = false → mf y = km y) : mf = fun y => if y = x then some v else if ns.contains y = true then mf y else km y := by
  funext y
  by_cases hx : y = x
  · rw [if_pos hx, hx, e1]
  · rw [if_neg hx]
    by_cases hn : ns.contains y = true
    · rw [if_pos hn]
    · rw [if_neg hn, e2 y hx (by simpa using hn)]
theorem w_words_Du_1 : True := by
  k_with "exec For Tuple Name cons nil" => (k_here; k_dflt (refine' wpAny_For ?_ (by intro _; rfl)))
  trivial
section
variable {w : World} {mean : ExcName → Option Value} {mg mb : Str → Option Value} {h₀ base : Heap} {L fa L0 a0 : Addr} {cd ccd0 : Value} {A₀ : Around} {outer outer0 : List Env} {dp un : Nat} {gd : Option (List Code)} {cn0 : Str} {cs0 : Scope} {cl0 : List (Str × Addr)} {m : Str → Option Value} {news : List (Addr × Obj)} {s : Shared} {Q : Flow → Shared → Prop} {E : Value → Shared → Prop} {st : Stmt} {sc : Scope}
set_option maxRecDepth 100000 in
set_option maxHeartbeats 8000000 in
theorem du_cl (hst : duIf 1 = some st) (hsc : duScope = some sc) (hd : dp + 1 < recursionLimit) (hu : un + 8 * 1 < cLine) (X : (Mine.hd.heap_1 w.params).In h₀) (T : Top Mine.hd.view_1 (looseW Mine.hd.view_1 []) mean mg mb h₀) (F : Fr h₀ L s.heap m) (N : News h₀ L s.heap news) {lc : Addr} {vs : List Value} {xs : List (Int × Int)} (hp : PairsIn h₀ vs xs) (hl : h₀.IsList lc vs.toArray) (hb : ∀ c ∈ xs, 1 ≤ c.2 ∧ c.2 ≤ 3)
    {p : Int} {tp : Tok} {b : Bool} (h1 : m (Str.ofString "classes") = some (.ref lc)) (h2 : m (Str.ofString "place") = some (.int p tp)) (h3 : m (Str.ofString "left") = some (.bool b))
    (ret : ∀ h' tk' (u : Str → Option Value), Fr h₀ L h' (fun y => if y = (Str.ofString "left") then some (.bool (b || xs.any (hitC p))) else if nsN.contains y = true then u y else m y) → News h₀ L h' news → Q .next { s with heap := h', toks := tk' }) :
    wpAny (model PySem.Challenge.rw_pg0115_01.row.prog w) ((ktrTop dp un gd cn0 cs0 L0 a0 ccd0 cl0 outer0).deeper (envOf duName sc L fa cd)) (exec st (envOf duName sc L fa cd)) Q E s := by
  revert X
  k_fill
  intro X
  cases hst
  cases hsc
  (try dsimp only)
  have F := fr_know3 F h3 h1 h2
  k_steps
  obtain ⟨ol, hol, hlc, hld⟩ := id hl
  refine for_list (n₀ := 0) (Nat.zero_le _) (ol := ol) hlc hld (DuJ (fun y => if y = (Str.ofString "classes") then some (.ref lc) else if y = (Str.ofString "place") then some (.int p tp) else m y) news (fun i => b || (xs.take i).any (hitC p))) rfl (fun i m' nx h' _ F' _ => F'.keep _ _ hol) (by k_asm) (by k_asm) ?_ ?_ ?_ ?_
  · refine ⟨(fun y => if y = (Str.ofString "classes") then some (.ref lc) else if y = (Str.ofString "place") then some (.int p tp) else m y), funext fun y => ?_, rfl⟩
    dsimp only
    rw [ite_self, List.take_zero, List.any_nil, Bool.or_false]
  · exact .inl ⟨rfl, hp.ref⟩
  · rintro i v m₁ nx h tk I oI _ hv ⟨u, rfl, rfl⟩ F N hn
    obtain ⟨a, x, y, t1, t2, n, rfl, hx, ha⟩ := hp.at hv
    have hT : IsTup h a #[.int x t1, .int y t2] := ⟨_, F.keep _ _ ha, rfl, n, rfl⟩
    have hb := hb _ (List.mem_of_getElem? hx)
    simp only at hb
    have hB := any_take (f := hitC p) hx
    clear ret
    dsimp only at *
    k_steps
    all_goals ((rename Fr _ _ _ _ => kF); (rename News _ _ _ _ => kN); (try dsimp only); first
      | (rw [hitC_t (by assumption)] at hB; refine TEnd.intro kF kN (.head _) (fun _ hp => .tail _ hp) hn ⟨_, map_close (Eq.trans (b := some (Value.bool true)) rfl (by dsimp only; rw [hB]; simp)) (fun y hy hn => ?_), rfl⟩)
      | (rw [hitC_f (by assumption)] at hB; refine TEnd.intro kF kN (.head _) (fun _ hp => .tail _ hp) hn ⟨_, map_close (Eq.trans (b := some (Value.bool (b || (xs.take i).any (hitC p)))) rfl (by dsimp only; rw [hB]; simp)) (fun y hy hn => ?_), rfl⟩))
    all_goals (simp only [if_neg hy, if_neg (not_in hn (x := (Str.ofString "size")) rfl), if_neg (not_in hn (x := (Str.ofString "number")) rfl), hn, Bool.false_eq_true, if_false])
  · rintro m₁ nx h tk _ ⟨u, rfl, rfl⟩ F N
    have hlen := hp.length
    dsimp only at F
    rw [hlen, List.take_length] at F
    exact ret h tk u (by simp only [know_pt h1, know_pt h2] at F; exact F) N
theorem pow4_ne (k : Nat) : (4 : Int) ^ k ≠ 0 := Int.pow_ne_zero (by decide)
theorem pow4_small {y : Int} (h : 1 ≤ y ∧ y ≤ 2) : ((4 : Int) ^ (2 - y).toNat).natAbs < 1073741824 := by
  rcases (show y = 1 ∨ y = 2 by omega) with rfl | rfl <;> decide
theorem w_words_Du_2 : True := by
  k_with "binaryOp FloorDiv int int" => (k_here; k_dflt (refine' floordiv_int ?kb ?_ (Or.inl (PyProof.noPylong_small ?kp)); (case kb => exact pow4_ne _); (case kp => exact pow4_small (by assumption)); k_whole))
  trivial
set_option maxRecDepth 100000 in
set_option maxHeartbeats 8000000 in
theorem du_st (hst : duIf2 0 = some st) (hsc : duScope = some sc) (hd : dp + 1 < recursionLimit) (hu : un + 8 * 1 < cLine) (X : (Mine.hd.heap_1 w.params).In h₀) (T : Top Mine.hd.view_1 (looseW Mine.hd.view_1 []) mean mg mb h₀) (F : Fr h₀ L s.heap m) (N : News h₀ L s.heap news) {lc : Addr} {vs : List Value} {xs : List (Int × Int)} (hp : PairsIn h₀ vs xs) (hl : h₀.IsList lc vs.toArray) (hb : ∀ c ∈ xs, 1 ≤ c.2 ∧ c.2 ≤ 2)
    {p : Int} {tp : Tok} {b : Bool} (h1 : m (Str.ofString "stretches") = some (.ref lc)) (h2 : m (Str.ofString "level") = some (.int p tp)) (h3 : m (Str.ofString "left") = some (.bool b)) (l0 : 0 ≤ p) (l1 : p < 16)
    (ret : ∀ h' tk' (u : Str → Option Value), Fr h₀ L h' (fun y => if y = (Str.ofString "left") then some (.bool (b || xs.any (hitS p))) else if nsN.contains y = true then u y else m y) → News h₀ L h' news → Q .next { s with heap := h', toks := tk' }) :
    wpAny (model PySem.Challenge.rw_pg0115_01.row.prog w) ((ktrTop dp un gd cn0 cs0 L0 a0 ccd0 cl0 outer0).deeper (envOf duName sc L fa cd)) (exec st (envOf duName sc L fa cd)) Q E s := by
  revert X
  k_fill
  intro X
  cases hst
  cases hsc
  (try dsimp only)
  have F := fr_know3 F h3 h1 h2
  k_steps
  obtain ⟨ol, hol, hlc, hld⟩ := id hl
  refine for_list (n₀ := 0) (Nat.zero_le _) (ol := ol) hlc hld (DuJ (fun y => if y = (Str.ofString "stretches") then some (.ref lc) else if y = (Str.ofString "level") then some (.int p tp) else m y) news (fun i => b || (xs.take i).any (hitS p))) rfl (fun i m' nx h' _ F' _ => F'.keep _ _ hol) (by k_asm) (by k_asm) ?_ ?_ ?_ ?_
  · refine ⟨(fun y => if y = (Str.ofString "stretches") then some (.ref lc) else if y = (Str.ofString "level") then some (.int p tp) else m y), funext fun y => ?_, rfl⟩
    dsimp only
    rw [ite_self, List.take_zero, List.any_nil, Bool.or_false]
  · exact .inl ⟨rfl, hp.ref⟩
  · rintro i v m₁ nx h tk I oI _ hv ⟨u, rfl, rfl⟩ F N hn
    obtain ⟨a, x, y, t1, t2, n, rfl, hx, ha⟩ := hp.at hv
    have hT : IsTup h a #[.int x t1, .int y t2] := ⟨_, F.keep _ _ ha, rfl, n, rfl⟩
    have hb := hb _ (List.mem_of_getElem? hx)
    simp only at hb
    have hB := any_take (f := hitS p) hx
    clear ret
    dsimp only at *
    k_steps
    all_goals ((rename Fr _ _ _ _ => kF); (rename News _ _ _ _ => kN); (try dsimp only); first
      | (rw [hitS_t (by assumption)] at hB; refine TEnd.intro kF kN (.head _) (fun _ hp => .tail _ hp) hn ⟨_, map_close (Eq.trans (b := some (Value.bool true)) rfl (by dsimp only; rw [hB]; simp)) (fun y hy hn => ?_), rfl⟩)
      | (rw [hitS_f (by assumption)] at hB; refine TEnd.intro kF kN (.head _) (fun _ hp => .tail _ hp) hn ⟨_, map_close (Eq.trans (b := some (Value.bool (b || (xs.take i).any (hitS p)))) rfl (by dsimp only; rw [hB]; simp)) (fun y hy hn => ?_), rfl⟩))
    all_goals (simp only [if_neg hy, if_neg (not_in hn (x := (Str.ofString "size")) rfl), if_neg (not_in hn (x := (Str.ofString "number")) rfl), hn, Bool.false_eq_true, if_false])
  · rintro m₁ nx h tk _ ⟨u, rfl, rfl⟩ F N
    have hlen := hp.length
    dsimp only at F
    rw [hlen, List.take_length] at F
    exact ret h tk u (by simp only [know_pt h1, know_pt h2] at F; exact F) N
end
end Mine
open PySem PySem.W PyProof.Rows
set_option Elab.async false
namespace Mine
theorem w_clear_Ra : True := by
  w_top off
  k_with_none
  k_with "callWith" => (k_here; (with_reducible show wpAny _ _ (callWith _ (Value.builtin _) (_ :: _) (backTo _ (starEach (_ :: _) _)) []) _ _ _); (with_reducible refine' PyProof.Rows.callWith_method1 ?_ ?he ?hp); (case he => k_dflt rfl); (case hp => k_dflt rfl))
  k_with "callWith" => (k_here; (with_reducible show wpAny _ _ (callWith _ (Value.builtin _) [] (backTo _ (starEach (_ :: _) _)) []) _ _ _); (with_reducible refine' PyProof.Rows.callWith_builtin1 ?_ ?he ?hp); (case he => k_dflt rfl); (case hp => k_dflt rfl))
  trivial
open PyProof.Rows.LCg
section
variable {prog : Program} {w : World} {A : Around} {E : Value → Shared → Prop} {s : Shared} {h₀ : Heap} {L : Addr} {m : Str → Option Value} {env : Env}
noncomputable def GoR (elt : Expr) (x : Str) (scope : Scope) (cl : List (Str × Addr)) (FF : Addr → Heap → Prop) (QQ : Addr → Shared → Prop) (xv : Value) (s₁ : Shared) : Prop :=
  ∃ (r : Addr) (n : Nat) (t u v : Tok) (news : List (Addr × Obj)) (J : Nat → List Value → List (Addr × Obj) → Prop), xv = .ref r ∧ Fr h₀ L s₁.heap m ∧ News h₀ L s₁.heap news ∧ J 0 [] news ∧ n ≤ 1000 ∧ IsRange s₁.heap r 0 (n : Int) 1 t u v ∧
    Turn1 prog w A h₀ L m env elt x scope cl s₁ (fun i v => i < n ∧ ∃ t, v = .int (i : Int) t) J ∧
    (∀ D h tk ys news', FF D h → News h₀ L h ((D, lst ys) :: news') → Off1 D news' → J n ys news' → QQ D { s₁ with heap := h, toks := tk })
theorem range_small {n : Nat} (h : n ≤ 1000) : Builtin.Range.small 0 (n : Int) 1 = true := small_one (by decide) (by decide) (by omega) (by omega)
theorem range_size {n : Nat} : Builtin.Range.rangeSize 0 (n : Int) 1 = (n : Int) := by
  rw [rangeSize_one]
  split <;> omega
theorem compR_eval {elt iter : Expr} {x : Str} {px : Pos} {scope : Scope} {cl : List (Str × Addr)} {pos : Pos} {Q : Value → Shared → Prop} (F₀ : Fr h₀ L s.heap m) (hh : A.handled = none)
    (hclos : closureFor scope env = pure cl) (hcell : ∀ y ∈ scope.names, y.2 ≠ .cell) (hkind : scope.kind = .function)
    (hnames : ∀ y ∈ scope.names, y.2 = .local → scope.names.lookup y.1 = some .local) (hx : scope.names.lookup x = some .local)
    (h : wpAny (model prog w) A (eval iter env) (GoR (prog := prog) (w := w) (A := A) (h₀ := h₀) (L := L) (m := m) (env := env) elt x scope cl (fun _ h => Fr h₀ L h m) (fun D => Q (.ref D))) E s)
    (hs : ∀ x, foldedSetIterable iter env x = pure x := by intro _; rfl) :
    wpAny (model prog w) A (eval (.ListComp elt [⟨.Name x px, iter, [], 0⟩] scope pos) env) Q E s := by
  refine ListComp_U F₀ hclos hcell hkind hnames hx (wpAny_mono h (fun xv s₁ h₁ => ?_) fun _ _ e => e) hs
  obtain ⟨r, n, t, u, v, news, J, rfl, F, N, J0, hsz, hr, T, fin⟩ := h₁
  refine CompSrc.range hh F N hr (range_small hsz) range_size (by rw [sizeLine_eq]; omega) fun g => ?_
  refine rest_of (n := n) (P := fun i v => ∃ t, v = .int (0 + (i : Int)) t) (fun i v ys nx I oI C oC D m₂ g h tk E' hP => T i v ys nx I oI C oC D m₂ g h tk E' ⟨hP.1, by obtain ⟨t, e⟩ := hP.2; exact ⟨t, by rw [e, Int.zero_add]⟩⟩) (fun i ys nx hj => True.intro) (fun ys nx hj => fun D h tk F' N' o1 => fin D h tk ys nx F' N' o1 hj) _ _ _ _ (Nat.zero_add _) J0
theorem compR_assign {elt iter : Expr} {x y : Str} {px py : Pos} {scope : Scope} {cl : List (Str × Addr)} {pos spos : Pos} {Q : Flow → Shared → Prop} (F₀ : Fr h₀ L s.heap m) (hh : A.handled = none) (hLe : env.locals = L)
    (hsw : swapsWith (.ListComp elt [⟨.Name x px, iter, [], 0⟩] scope pos) (some (.Name y py)) spos.line env = pure true)
    (hclos : closureFor scope env = pure cl) (hcell : ∀ z ∈ scope.names, z.2 ≠ .cell) (hkind : scope.kind = .function)
    (hnames : ∀ z ∈ scope.names, z.2 = .local → scope.names.lookup z.1 = some .local) (hx : scope.names.lookup x = some .local)
    (hy : env.kindOf y = some .local) (hp : (env.scope.kind == .class || (env.scope.kind == .module && env.locals != env.globals)) = false)
    (h : wpAny (model prog w) A (eval iter env) (GoR (prog := prog) (w := w) (A := A) (h₀ := h₀) (L := L) (m := m) (env := env) elt x scope cl (fun D h => Fr h₀ L h (fun z => if z = y then some (.ref D) else m z)) (fun _ => Q .next)) E s)
    (hs : ∀ x, foldedSetIterable iter env x = pure x := by intro _; rfl) :
    wpAny (model prog w) A (exec (.Assign [.Name y py] (.ListComp elt [⟨.Name x px, iter, [], 0⟩] scope pos) spos) env) Q E s := by
  refine Assign_ListComp_U F₀ hLe hsw hclos hcell hkind hnames hx hy hp (wpAny_mono h (fun xv s₁ h₁ => ?_) fun _ _ e => e) hs
  obtain ⟨r, n, t, u, v, news, J, rfl, F, N, J0, hsz, hr, T, fin⟩ := h₁
  refine CompSrc.range hh F N hr (range_small hsz) range_size (by rw [sizeLine_eq]; omega) fun g => ?_
  refine rest_of (n := n) (P := fun i v => ∃ t, v = .int (0 + (i : Int)) t) (fun i v ys nx I oI C oC D m₂ g h tk E' hP => T i v ys nx I oI C oC D m₂ g h tk E' ⟨hP.1, by obtain ⟨t, e⟩ := hP.2; exact ⟨t, by rw [e, Int.zero_add]⟩⟩) (fun i ys nx hj => True.intro) (fun ys nx hj => fun D h tk F' N' o1 => fin D h tk ys nx F' N' o1 hj) _ _ _ _ (Nat.zero_add _) J0
end
theorem comp2_evalFr {prog : Program} {w : World} {A : Around} {E : Value → Shared → Prop} {s : Shared} {h₀ : Heap} {L : Addr} {m : Str → Option Value} {env : Env} {elt iter : Expr} {x x₂ : Str} {px px₂ tp : Pos} {tk} {scope : Scope} {cl : List (Str × Addr)} {pos : Pos} {Q : Value → Shared → Prop}
    (_ : Fr h₀ L s.heap m) (hclos : closureFor scope env = pure cl) (hcell : ∀ y ∈ scope.names, y.2 ≠ .cell) (hkind : scope.kind = .function)
    (hnames : ∀ y ∈ scope.names, y.2 = .local → scope.names.lookup y.1 = some .local) (hx : scope.names.lookup x = some .local) (hx₂ : scope.names.lookup x₂ = some .local) (hxx : x ≠ x₂) (hh : A.handled = none)
    (h : wpAny (model prog w) A (eval iter env) (Go2 (prog := prog) (w := w) (A := A) (h₀ := h₀) (L := L) (m := m) (env := env) elt x x₂ scope cl (fun _ h => Fr h₀ L h m) (fun D => Q (.ref D))) E s)
    (hs : ∀ x, foldedSetIterable iter env x = pure x := by intro _; rfl) :
    wpAny (model prog w) A (eval (.ListComp elt [⟨.Tuple [.Name x px, .Name x₂ px₂] tk tp, iter, [], 0⟩] scope pos) env) Q E s := comp2_eval hclos hcell hkind hnames hx hx₂ hxx hh h hs
inductive PairsL (nl : List (Addr × Obj)) : List Value → List (Int × Int) → Prop
  | nil : PairsL nl [] []
  | cons {a : Addr} {x y : Int} {t1 t2 : Tok} {n : Nat} {vs xs} : (a, tupObj [.int x t1, .int y t2] n) ∈ nl → PairsL nl vs xs → PairsL nl (.ref a :: vs) ((x, y) :: xs)
theorem PairsL.toIn {h₀ h : Heap} {L : Addr} {nl : List (Addr × Obj)} (N : News h₀ L h nl) : ∀ {vs : List Value} {xs : List (Int × Int)}, PairsL nl vs xs → PairsIn h vs xs
  | _, _, .nil => .nil
  | _, _, .cons hm hr => .cons (N _ hm).1 (hr.toIn N)
theorem PairsL.mono {nl nl' : List (Addr × Obj)} (hs : ∀ p ∈ nl, p ∈ nl') : ∀ {vs : List Value} {xs : List (Int × Int)}, PairsL nl vs xs → PairsL nl' vs xs
  | _, _, .nil => .nil
  | _, _, .cons hm hr => .cons (hs _ hm) (hr.mono hs)
theorem PairsL.snoc {nl : List (Addr × Obj)} {a : Addr} {x y : Int} {t1 t2 : Tok} {n : Nat} (hm : (a, tupObj [.int x t1, .int y t2] n) ∈ nl) : ∀ {vs : List Value} {xs : List (Int × Int)}, PairsL nl vs xs → PairsL nl (vs ++ [.ref a]) (xs ++ [(x, y)])
  | _, _, .nil => .cons hm .nil
  | _, _, .cons h hr => .cons h (hr.snoc hm)
theorem PairsL.length {nl : List (Addr × Obj)} : ∀ {vs : List Value} {xs : List (Int × Int)}, PairsL nl vs xs → vs.length = xs.length
  | _, _, .nil => rfl
  | _, _, .cons _ hr => congrArg (· + 1) hr.length
theorem PairsL.app {nl : List (Addr × Obj)} {vs' : List Value} {xs' : List (Int × Int)} (h' : PairsL nl vs' xs') : ∀ {vs : List Value} {xs : List (Int × Int)}, PairsL nl vs xs → PairsL nl (vs ++ vs') (xs ++ xs')
  | _, _, .nil => h'
  | _, _, .cons h hr => .cons h (PairsL.app h' hr)
noncomputable def diag (n : Nat) : List (Int × Int) := (List.range n).map fun (i : Nat) => ((i : Int), (i : Int))
noncomputable def PrJ (f : Nat → Int × Int) (news : List (Addr × Obj)) (i : Nat) (ys : List Value) (nx : List (Addr × Obj)) : Prop := (∀ p ∈ news, p ∈ nx) ∧ PairsL nx ys ((List.range i).map f)
theorem cend1_tup {h₀ : Heap} {L : Addr} {m : Str → Option Value} {s₁ : Shared} {I C D a : Addr} {oI oC oD t : Obj} {nx : List (Addr × Obj)} {h' : Heap} {tk : Nat} {rest : Value → List (Addr × Obj) → Prop} (F : Fr h₀ L h' m) (N : News h₀ L h' ((a, t) :: (I, oI) :: (C, oC) :: (D, oD) :: nx))
    (lt : (@LT.lt Nat _ I a) ∧ (@LT.lt Nat _ C a) ∧ (@LT.lt Nat _ D a) ∧ AllLt a nx) (off : Off3 I C D nx) (r : rest (.ref a) ((a, t) :: nx)) : CEnd1 h₀ L m s₁ I oI C oC D oD rest (.ref a) { s₁ with heap := h', toks := tk } :=
  ⟨h', tk, (a, t) :: nx, rfl, F, fun p hp => N p (by
    rcases List.mem_cons.mp hp with rfl | hp
    · exact .tail _ (.head _)
    rcases List.mem_cons.mp hp with rfl | hp
    · exact .tail _ (.tail _ (.head _))
    rcases List.mem_cons.mp hp with rfl | hp
    · exact .tail _ (.tail _ (.tail _ (.head _)))
    rcases List.mem_cons.mp hp with rfl | hp
    · exact .head _
    exact .tail _ (.tail _ (.tail _ (.tail _ hp)))), ⟨⟨Nat.ne_of_gt lt.1, Nat.ne_of_gt lt.2.1, Nat.ne_of_gt lt.2.2.1⟩, off⟩, r⟩
theorem cend_tup {h₀ : Heap} {L : Addr} {m : Str → Option Value} {s₁ : Shared} {I C D a : Addr} {oI oC oD t : Obj} {nx : List (Addr × Obj)} {h' : Heap} {tk : Nat} {rest : Value → List (Addr × Obj) → Prop} (F : Fr h₀ L h' m) (N : News h₀ L h' ((a, t) :: (I, oI) :: (C, oC) :: (D, oD) :: nx))
    (lt : (@LT.lt Nat _ I a) ∧ (@LT.lt Nat _ C a) ∧ (@LT.lt Nat _ D a) ∧ AllLt a nx) (off : Off3 I C D nx) (r : rest (.ref a) ((a, t) :: nx)) : CEnd h₀ L m s₁ I oI C oC D oD rest (.ref a) { s₁ with heap := h', toks := tk } := by
  obtain ⟨h', tk, nx, e, F, N, o, r⟩ := cend1_tup (s₁ := s₁) (tk := tk) F N lt off r
  exact ⟨h', tk, s₁.drawn, nx, e, F, N, o, r⟩
theorem range_snoc {α : Type} (f : Nat → α) (i : Nat) : (List.range (i + 1)).map f = (List.range i).map f ++ [f i] := by
  rw [List.range_succ, List.map_append]; rfl
theorem prj_next {f : Nat → Int × Int} {news nx : List (Addr × Obj)} {i : Nat} {ys : List Value} {a : Addr} {x y : Int} {t1 t2 : Tok} {n : Nat} (hs : ∀ p ∈ news, p ∈ nx) (hP : PairsL nx ys ((List.range i).map f)) (e : f i = (x, y)) : PrJ f news (i + 1) (ys ++ [.ref a]) ((a, tupObj [.int x t1, .int y t2] n) :: nx) := by
  refine ⟨fun p hp => .tail _ (hs p hp), ?_⟩
  rw [range_snoc, e]
  exact (hP.mono fun _ h => .tail _ h).snoc (.head _)
theorem news_skip2 {h₀ h : Heap} {L : Addr} {a b c d x y : Addr × Obj} {nx : List (Addr × Obj)} (N : News h₀ L h (a :: b :: c :: d :: x :: y :: nx)) : News h₀ L h (a :: b :: c :: d :: nx) := fun p hp => N p (by
  simp only [List.mem_cons] at hp ⊢
  rcases hp with h | h | h | h | h <;> simp [h])
theorem len_led {prog : Program} {w : World} {A : Around} {E : Value → Shared → Prop} {s : Shared} {h₀ : Heap} {L l : Addr} {news : List (Addr × Obj)} {vs : List Value} {k : Nat} {Q : Value → Shared → Prop} (N : News h₀ L s.heap news) (hl : (l, W.listOf vs.toArray k) ∈ news) (hb : vs.length ≤ 100)
    (h : ∀ t tk, Q (.int (vs.length : Int) t) { s with toks := tk }) : wpAny (model prog w) A (call (.builtin "len") [.ref l]) Q E s := by
  refine Calls.call_len_list (items := vs.toArray) ⟨_, (N _ hl).1, rfl, _, rfl⟩ (by rw [List.size_toArray]; omega) ?_
  rw [List.size_toArray]
  exact h _ _
theorem w_words_Ra_1 : True := by
  k_with "call builtin:len" => (k_here; k_dflt (refine' len_led ?kN ?kl ?kb ?_; (case kN => k_asm); (case kl => k_mem); (case kb => assumption); k_whole; intro t9 tk9))
  k_with "call type:range" => (k_here; k_dflt (refine' range1_rows ?kF ?kN ?_; (case kF => k_asm); (case kN => k_asm); k_whole; intro h9 tk9 t9 u9 v9 R9 F9 N9 K9))
  trivial
section
variable {w : World} {mean : ExcName → Option Value} {mg mb : Str → Option Value} {h₀ : Heap} {L fa : Addr} {cd : Value} {m : Str → Option Value} {news : List (Addr × Obj)} {s : Shared} {Q : Flow → Shared → Prop} {E : Value → Shared → Prop} {st : Stmt} {sc : Scope}
set_option maxRecDepth 100000 in
set_option maxHeartbeats 8000000 in
theorem law10 (hst : lawSt 10 = some st) (hsc : lawScope = some sc) (B : Below callerA h₀ [] h₀) (X : (Mine.hd.heap_1 w.params).In h₀) (T : Top Mine.hd.view_1 (looseW Mine.hd.view_1 []) mean mg mb h₀) (F : Fr h₀ L s.heap m) (N : News h₀ L s.heap news) {ls : Addr} {vs : List Value} {k : Nat} {oS : Obj} (hl : (ls, W.listOf vs.toArray k) ∈ news) (hc : (L + 1, oS) ∈ news) (dS : oS.data = .cell (some (.ref ls))) (hlen : vs.length ≤ 100)
    (ret : ∀ h' tk' D ys nx, Fr h₀ L h' (fun y => if y = (Str.ofString "pairs") then some (.ref D) else m y) → News h₀ L h' ((D, lst ys) :: nx) → (∀ p ∈ news, p ∈ nx) → Off1 D nx → PairsL nx ys (diag vs.length) → Q .next { s with heap := h', toks := tk' }) :
    wpAny (model PySem.Challenge.rw_pg0115_01.row.prog w) (callerA.deeper (envOfC (Str.ofString "law") sc L fa cd)) (exec st (envOfC (Str.ofString "law") sc L fa cd)) Q E s := by
  revert X
  k_fill
  intro X
  cases hst
  cases hsc
  (try dsimp only)
  have N0 := N
  have N : News h₀ L s.heap ((ls, W.listOf vs.toArray k) :: (L + 1, oS) :: news) := fun p hp => by
    rcases List.mem_cons.mp hp with rfl | hp
    · exact N _ hl
    · rcases List.mem_cons.mp hp with rfl | hp
      · exact N _ hc
      · exact N _ hp
  k_dflt (refine compR_assign F rfl rfl (by with_unfolding_all rfl) (by with_unfolding_all rfl) (by decide) (by rfl) (by decide) (by rfl) (by rfl) (by rfl) ?_)
  k_steps
  (rename IsRange _ _ _ _ _ _ _ _ => kR); (rename Fr _ _ _ _ => kF); (rename News _ _ _ _ => kN)
  refine ⟨_, vs.length, _, _, _, news, PrJ (fun i => ((i : Int), (i : Int))) news, rfl, kF, news_sub kN (fun _ h => .tail _ (.tail _ h)), ⟨fun _ h => h, .nil⟩, by omega, kR, ?_, ?_⟩
  · rintro i v ys nx I oI C oC D m₂ g h tk E' ⟨hi, t, rfl⟩ ⟨hs, hP⟩ hC hv F N off ne
    clear ret
    k_steps
    (rename _ ∧ _ ∧ _ ∧ _ => l9); (rename Fr _ _ _ _ => kF); (rename News _ _ _ _ => kN); (try dsimp only)
    exact cend1_tup kF kN l9 off (prj_next hs hP rfl)
  · rintro D h tk ys nx F N o1 ⟨hs, hP⟩
    exact ret _ _ _ _ _ F N hs o1 hP
/-- behind the first list of pairs -/
noncomputable def cross (n : Nat) : List (Int × Int) := (List.range n).map fun (i : Nat) => ((i : Int), (n : Int) - 1 - (i : Int))
theorem w_words_Ra_2 : True := by
  k_with "eval ListComp" => (k_here; k_dflt (refine compR_eval (by k_asm) rfl (by with_unfolding_all rfl) (by decide) (by rfl) (by decide) (by rfl) ?_))
  trivial
set_option maxRecDepth 100000 in
set_option maxHeartbeats 8000000 in
theorem law11 (hst : lawSt 11 = some st) (hsc : lawScope = some sc) (B : Below callerA h₀ [] h₀) (X : (Mine.hd.heap_1 w.params).In h₀) (T : Top Mine.hd.view_1 (looseW Mine.hd.view_1 []) mean mg mb h₀) (F : Fr h₀ L s.heap m) (N : News h₀ L s.heap news) {ls lp : Addr} {vs ps : List Value} {k k2 : Nat} {oS : Obj} (h1 : m (Str.ofString "pairs") = some (.ref lp)) (hp : (lp, W.listOf ps.toArray k2) ∈ news) (hP : PairsL news ps (diag vs.length)) (hl : (ls, W.listOf vs.toArray k) ∈ news) (hc : (L + 1, oS) ∈ news) (dS : oS.data = .cell (some (.ref ls))) (hlen : vs.length ≤ 100)
    (ret : ∀ h' tk' D ys e nx, Fr h₀ L h' (fun y => if y = (Str.ofString "pairs") then some (.ref D) else m y) → News h₀ L h' ((D, W.listOf ys.toArray e) :: nx) → (∀ p ∈ news, p ∈ nx) → PairsL nx ys (diag vs.length ++ cross vs.length) → Q .next { s with heap := h', toks := tk' }) :
    wpAny (model PySem.Challenge.rw_pg0115_01.row.prog w) (callerA.deeper (envOfC (Str.ofString "law") sc L fa cd)) (exec st (envOfC (Str.ofString "law") sc L fa cd)) Q E s := by
  revert X
  k_fill
  intro X
  cases hst
  cases hsc
  (try dsimp only)
  have F := fr_know1 F h1
  have N0 := N
  have N : News h₀ L s.heap ((ls, W.listOf vs.toArray k) :: (L + 1, oS) :: (lp, W.listOf ps.toArray k2) :: news) := fun p hp' => by
    rcases List.mem_cons.mp hp' with rfl | hp'
    · exact N _ hl
    rcases List.mem_cons.mp hp' with rfl | hp'
    · exact N _ hc
    rcases List.mem_cons.mp hp' with rfl | hp'
    · exact N _ hp
    exact N _ hp'
  k_steps
  (rename IsRange _ _ _ _ _ _ _ _ => kR); (rename Fr _ _ _ _ => kF); (rename News _ _ _ _ => kN)
  refine ⟨_, vs.length, _, _, _, news, PrJ (fun i => ((i : Int), (vs.length : Int) - 1 - (i : Int))) news, rfl, kF, news_sub kN (fun _ h => .tail _ (.tail _ (.tail _ h))), ⟨fun _ h => h, .nil⟩, by omega, kR, ?_, ?_⟩
  · rintro i v ys nx I oI C oC D m₂ g h tk E' ⟨hi, t, rfl⟩ ⟨hs, hP'⟩ hC hv F N off ne
    clear ret kN kF
    have N : News h₀ L h ((I, oI) :: (C, oC) :: (D, lst ys) :: (ls, W.listOf vs.toArray k) :: (L + 1, oS) :: nx) := fun p hp' => by
      rcases List.mem_cons.mp hp' with rfl | hp'
      · exact N _ (.head _)
      rcases List.mem_cons.mp hp' with rfl | hp'
      · exact N _ (.tail _ (.head _))
      rcases List.mem_cons.mp hp' with rfl | hp'
      · exact N _ (.tail _ (.tail _ (.head _)))
      rcases List.mem_cons.mp hp' with rfl | hp'
      · exact N _ (.tail _ (.tail _ (.tail _ (hs _ hl))))
      rcases List.mem_cons.mp hp' with rfl | hp'
      · exact N _ (.tail _ (.tail _ (.tail _ (hs _ hc))))
      exact N _ (.tail _ (.tail _ (.tail _ hp')))
    k_steps
    (rename _ ∧ _ ∧ _ ∧ _ => l9); (rename Fr _ _ _ _ => kF); (rename News _ _ _ _ => kN); (try dsimp only)
    exact cend1_tup kF (news_skip2 kN) ⟨l9.1, l9.2.1, l9.2.2.1, l9.2.2.2.2.2⟩ off (prj_next hs hP' rfl)
  · rintro D h tk ys nx F N o1 ⟨hs, hP'⟩
    have N : News h₀ L h ((lp, W.listOf ps.toArray k2) :: (D, lst ys) :: nx) := fun p hp' => by
      rcases List.mem_cons.mp hp' with rfl | hp'
      · exact N _ (.tail _ (hs _ hp))
      exact N _ hp'
    clear kF kN
    k_steps
    have e1 := hP.length
    have e2 := hP'.length
    simp only [diag, List.length_map, List.length_range] at e1 e2
    k_dflt (refine add_lists (vs := ps) (ws := ys) (hsz := by rw [sizeLine_eq]; omega) F N ⟨_, (N _ (.head _)).1, rfl, _, rfl⟩ ⟨_, (N _ (.tail _ (.head _))).1, rfl, _, rfl⟩ ?_)
    intro h9 F9 N9
    clear F N
    k_steps
    (rename Fr _ _ _ _ => kF); (rename News _ _ _ _ => kN); (try dsimp only)
    exact ret _ _ _ _ _ _ (by (try simp only [know_pt h1] at kF); exact kF) kN (fun p hp' => .tail _ (.tail _ (hs p hp'))) (PairsL.app (hP'.mono fun p hp' => .tail _ (.tail _ hp')) (hP.mono fun p hp' => .tail _ (.tail _ (hs p hp'))))
end
end Mine
open PySem PySem.W PyProof.Rows
set_option Elab.async false
namespace Mine
noncomputable def bitT (b : Bool) : Str := if b then Str.ofString "1" else Str.ofString "0"
noncomputable def bitsT (bs : List Bool) : Str := bs.foldl (fun t b => t ++ bitT b) (Str.ofString "")
theorem bitsT_snoc (bs : List Bool) (b : Bool) : bitsT (bs ++ [b]) = bitsT bs ++ bitT b := by simp [bitsT, List.foldl_append]
theorem bitT_len (b : Bool) : (bitT b).length = 1 := by cases b <;> decide
theorem bitsT_len : ∀ bs : List Bool, (bitsT bs).length = bs.length := by
  intro bs
  have h : ∀ (t : Str), (bs.foldl (fun t b => t ++ bitT b) t).length = t.length + bs.length := by
    induction bs with
    | nil => intro t; simp
    | cons b r ih => intro t; rw [List.foldl_cons, ih, Str.length_append, bitT_len, List.length_cons]; omega
  rw [bitsT, h, show (Str.ofString "").length = 0 by decide]
  omega
/-! asked again: the first answer -/
section
variable {K X : Type} [DecidableEq K]
noncomputable def ansStep (lf : K → X → Bool) (st : (K → Option Bool) × List Bool) (q : K × X) : (K → Option Bool) × List Bool :=
  (fun y => if y = q.1 then some ((st.1 q.1).getD (lf q.1 q.2)) else st.1 y, st.2 ++ [(st.1 q.1).getD (lf q.1 q.2)])
noncomputable def runB (lf : K → X → Bool) (f : K → Option Bool) (qs : List (K × X)) : (K → Option Bool) × List Bool := qs.foldl (ansStep lf) (f, [])
theorem runB_take (lf : K → X → Bool) (f : K → Option Bool) {qs : List (K × X)} {i : Nat} {q : K × X} (h : qs[i]? = some q) : runB lf f (qs.take (i + 1)) = ansStep lf (runB lf f (qs.take i)) q := by
  unfold runB
  rw [List.take_add_one, h]
  simp [List.foldl_append]
theorem runB_len (lf : K → X → Bool) (f : K → Option Bool) (qs : List (K × X)) : (runB lf f qs).2.length = qs.length := by
  have h : ∀ st : (K → Option Bool) × List Bool, (qs.foldl (ansStep lf) st).2.length = st.2.length + qs.length := by
    induction qs with
    | nil => intro st; simp
    | cons q r ih => intro st; rw [List.foldl_cons, ih]; simp [ansStep]; omega
  unfold runB
  rw [h]; simp
end
theorem valueAt_map {K : Type} [DecidableEq K] (k : K) (v : Value) (k' : K) : ∀ kvs : List (K × Value), valueAt (kvs.map fun kv => if kv.1 = k then (kv.1, v) else kv) k' = if k' = k then (valueAt kvs k).map (fun _ => v) else valueAt kvs k'
  | [] => by simp [valueAt]
  | (a, b) :: r => by
    have ih := valueAt_map k v k' r
    unfold valueAt at ih ⊢
    rw [List.map_cons]
    by_cases hp : a = k
    · subst hp
      by_cases hk : k' = a
      · subst hk; simp
      · have h2 : ¬ a = k' := fun e => hk e.symm
        rw [if_neg hk] at ih ⊢
        simp only [if_pos, List.find?_cons, decide_eq_false h2]
        exact ih
    · simp only [if_neg hp]
      by_cases hk' : a = k'
      · subst hk'
        rw [if_neg hp]
        simp
      · simp only [List.find?_cons, decide_eq_false hk', decide_eq_false hp]
        exact ih
theorem valueAt_none {K : Type} [DecidableEq K] {k : K} : ∀ {kvs : List (K × Value)}, (kvs.any fun kv => kv.1 = k) = false → valueAt kvs k = none
  | [], _ => rfl
  | (a, b) :: r, h => by
    simp only [List.any_cons, Bool.or_eq_false_iff, decide_eq_false_iff_not] at h
    have ih := valueAt_none (kvs := r) h.2
    unfold valueAt at ih ⊢
    simp only [List.find?_cons, decide_eq_false h.1]
    exact ih
theorem valueAt_some {K : Type} [DecidableEq K] {k : K} : ∀ {kvs : List (K × Value)}, (kvs.any fun kv => kv.1 = k) = true → ∃ v, valueAt kvs k = some v
  | [], h => by simp at h
  | (a, b) :: r, h => by
    by_cases hp : a = k
    · exact ⟨b, by unfold valueAt; simp [hp]⟩
    · simp only [List.any_cons, decide_eq_false hp, Bool.false_or] at h
      obtain ⟨v, ih⟩ := valueAt_some (kvs := r) h
      refine ⟨v, ?_⟩
      unfold valueAt at ih ⊢
      simp only [List.find?_cons, decide_eq_false hp]
      exact ih
theorem valueAt_stored {K : Type} [DecidableEq K] (kvs : List (K × Value)) (k : K) (v : Value) (k' : K) : valueAt (stored kvs k v) k' = if k' = k then some v else valueAt kvs k' := by
  unfold stored
  by_cases h : (kvs.any fun kv => kv.1 = k) = true
  · rw [if_pos h, valueAt_map]
    obtain ⟨x, hx⟩ := valueAt_some h
    rw [hx]
    rfl
  · rw [if_neg h]
    have hn := valueAt_none (Bool.eq_false_iff.mpr h)
    by_cases hk : k' = k
    · subst hk
      unfold valueAt at hn ⊢
      rw [List.find?_append, Option.map_eq_none_iff.mp hn]
      simp
    · have h2 : ¬ k = k' := fun e => hk e.symm
      unfold valueAt
      rw [List.find?_append, if_neg hk]
      simp [h2]
theorem stored_length {K : Type} [DecidableEq K] (kvs : List (K × Value)) (k : K) (v : Value) : (stored kvs k v).length ≤ kvs.length + 1 := by
  unfold stored
  split <;> simp
noncomputable def FirstOk {K : Type} [DecidableEq K] (V : Bool → Value → Prop) (kvs : List (K × Value)) (f : K → Option Bool) : Prop :=
  ∀ k, match f k with
    | none => valueAt kvs k = none
    | some b => ∃ v, V b v ∧ valueAt kvs k = some v
theorem FirstOk.store {K : Type} [DecidableEq K] {V : Bool → Value → Prop} {kvs : List (K × Value)} {f : K → Option Bool} (h : FirstOk V kvs f) {k : K} {b : Bool} {v : Value} (hv : V b v) : FirstOk V (stored kvs k v) (fun y => if y = k then some b else f y) := by
  intro y
  by_cases hy : y = k
  · simp only [if_pos hy]
    exact ⟨v, hv, by rw [valueAt_stored, if_pos hy]⟩
  · have := h y
    simp only [if_neg hy, valueAt_stored]
    exact this
theorem FirstOk.same {K : Type} [DecidableEq K] {V : Bool → Value → Prop} {kvs : List (K × Value)} {f : K → Option Bool} (h : FirstOk V kvs f) {k : K} {b : Bool} (hf : f k = some b) : FirstOk V kvs (fun y => if y = k then some b else f y) := by
  rw [show (fun y => if y = k then some b else f y) = f from funext fun y => by
    by_cases hy : y = k
    · rw [if_pos hy, hy, hf]
    · rw [if_neg hy]]
  exact h
noncomputable abbrev BitV (b : Bool) (v : Value) : Prop := ∃ t, v = .str (bitT b) t
noncomputable def leftOf (cl st : List (Int × Int)) (p : Int) (l : Option Int) : Bool := l.isNone || cl.any (hitC p) || (match l with | some x => st.any (hitS x) | none => false)
noncomputable def optV (l : Option Int) (t : Tok) : Value := match l with | some x => .int x t | none => .none
noncomputable def diN : List Str := ["left", "number", "size"].map Str.ofString
end Mine
open PySem PySem.W PyProof.Rows
set_option Elab.async false
namespace Mine
theorem w_clear_Dw : True := by
  w_top off
  k_with_none
  k_with "callWith" => (k_here; (with_reducible show wpAny _ _ (callWith _ (Value.builtin _) (_ :: _) (backTo _ (starEach (_ :: _) _)) []) _ _ _); (with_reducible refine' PyProof.Rows.callWith_method1 ?_ ?he ?hp); (case he => k_dflt rfl); (case hp => k_dflt rfl))
  k_with "callWith" => (k_here; (with_reducible show wpAny _ _ (callWith _ (Value.builtin _) [] (backTo _ (starEach (_ :: _) _)) []) _ _ _); (with_reducible refine' PyProof.Rows.callWith_builtin1 ?_ ?he ?hp); (case he => k_dflt rfl); (case hp => k_dflt rfl))
  trivial
theorem fr_closeN {h₀ h : Heap} {L : Addr} {mf m₁ : Str → Option Value} {ns : List Str} (F : Fr h₀ L h mf) (e : ∀ y, ns.contains y = false → mf y = m₁ y) : Fr h₀ L h (fun y => if ns.contains y = true then mf y else m₁ y) := by
  rw [show (fun y => if ns.contains y = true then mf y else m₁ y) = mf from funext fun y => by
    by_cases hy : ns.contains y = true
    · rw [if_pos hy]
    · rw [if_neg hy, e y (by simpa using hy)]]
  exact F
theorem ns_di {y : Str} (h : diN.contains y = false) : nsN.contains y = false := by
  have h1 := not_in h (x := Str.ofString "number") rfl
  have h2 := not_in h (x := Str.ofString "size") rfl
  simp [nsN, h1, h2]
theorem left1 {cl st : List (Int × Int)} {p : Int} : leftOf cl st p none = true := by simp [leftOf]
theorem left2 {cl st : List (Int × Int)} {p x : Int} (h : cl.any (hitC p) = true) : leftOf cl st p (some x) = true := by simp only [leftOf, h]; simp
theorem left3 {cl st : List (Int × Int)} {p x : Int} {b : Bool} (h : cl.any (hitC p) = false) (h2 : st.any (hitS x) = b) : leftOf cl st p (some x) = b := by simp only [leftOf, h, h2]; simp
theorem w_words_Dw_1 : True := by
  k_with "compareOp NotIn int ref" => (k_here; k_dflt (refine' kdg_notin (knd := intKind _ _) ?kN ?kp ?kd ?kl ?kk _ ?kb ?_; (case kN => k_asm); (case kp => exact .head _); (case kd => assumption); (case kl => assumption); (case kk => exact intKind_is _ _ _ _); (case kb => assumption); k_whole))
  k_with "setItem ref int" => (k_here; k_dflt (refine' kda_set (knd := intKind _ _) ?kF ?kN ?kU ?kd ?kk ?ks ?_; (case kF => k_asm); (case kN => k_asm); (case kU => exact UpdF.head (by assumption)); (case kd => assumption); (case kk => exact intKind_is _ _ _ _); (case ks => (rw [sizeLine_eq]; omega)); k_whole; intro h9 o9 F9 N9 d9))
  trivial
section
variable {w : World} {mean : ExcName → Option Value} {mg mb : Str → Option Value} {h₀ base : Heap} {L fa L0 a0 : Addr} {cd ccd0 : Value} {A₀ : Around} {outer outer0 : List Env} {dp un : Nat} {gd : Option (List Code)} {cn0 : Str} {cs0 : Scope} {cl0 : List (Str × Addr)} {m : Str → Option Value} {news : List (Addr × Obj)} {s : Shared} {Q : Flow → Shared → Prop} {E : Value → Shared → Prop} {st : Stmt} {sc : Scope}
set_option maxRecDepth 100000 in
set_option maxHeartbeats 8000000 in
theorem du_if (hst : duTurn 0 = some st) (hsc : duScope = some sc) (hd : dp + 1 < recursionLimit) (hu : un + 8 * 1 < cLine) (X : (Mine.hd.heap_1 w.params).In h₀) (T : Top Mine.hd.view_1 (looseW Mine.hd.view_1 []) mean mg mb h₀) (F : Fr h₀ L s.heap m) (N : News h₀ L s.heap news) {lc ls dF : Addr} {oF : Obj} {rest : List (Addr × Obj)} {vs vs2 : List Value} {cl sl : List (Int × Int)} (hp : PairsIn h₀ vs cl) (hl : h₀.IsList lc vs.toArray) (hb : ∀ c ∈ cl, 1 ≤ c.2 ∧ c.2 ≤ 3)
    (hp2 : PairsIn h₀ vs2 sl) (hl2 : h₀.IsList ls vs2.toArray) (hb2 : ∀ c ∈ sl, 1 ≤ c.2 ∧ c.2 ≤ 2)
    {p : Int} {l : Option Int} {tp tl : Tok} (h1 : m (Str.ofString "classes") = some (.ref lc)) (h2 : m (Str.ofString "stretches") = some (.ref ls)) (h3 : m (Str.ofString "place") = some (.int p tp)) (h4 : m (Str.ofString "level") = some (optV l tl)) (h5 : m (Str.ofString "first") = some (.ref dF)) (hlv : ∀ x ∈ l, 0 ≤ x ∧ x < 16)
    (hn : news = (dF, oF) :: rest) (hne : ∀ q ∈ rest, q.1 ≠ dF) (lo : (dF == sysModules) = false) {kvs : List (Int × Value)} (hD : oF.IsDictOf (intKind PySem.Challenge.rw_pg0115_01.row.prog w) kvs) {f : Int → Option Bool} (hf : FirstOk BitV kvs f) (hk : kvs.length ≤ 1000)
    (ret : ∀ h' tk' (u : Str → Option Value) oF' kvs', Fr h₀ L h' (fun y => if diN.contains y = true then u y else m y) → News h₀ L h' ((dF, oF') :: rest) → oF'.IsDictOf (intKind PySem.Challenge.rw_pg0115_01.row.prog w) kvs' → kvs'.length ≤ kvs.length + 1 → FirstOk BitV kvs' (fun y => if y = p then some ((f p).getD (leftOf cl sl p l)) else f y) → Q .next { s with heap := h', toks := tk' }) :
    wpAny (model PySem.Challenge.rw_pg0115_01.row.prog w) ((ktrTop dp un gd cn0 cs0 L0 a0 ccd0 cl0 outer0).deeper (envOf duName sc L fa cd)) (exec st (envOf duName sc L fa cd)) Q E s := by
  subst hn
  revert X
  k_fill
  intro X
  cases hst
  cases hsc
  (try dsimp only)
  have F := fr_know5 F h1 h2 h3 h4 h5
  cases hfp : f p with
  | some b =>
    have hs := hf p
    rw [hfp] at hs
    obtain ⟨v, _, hv⟩ := hs
    have hb9 : (valueAt kvs p).isSome = true := by rw [hv]; rfl
    k_steps
    (rename Fr _ _ _ _ => kF); (rename News _ _ _ _ => kN)
    refine ret _ _ m _ _ ?_ kN hD (Nat.le_succ _) ?_
    · simp only [know_pt h1, know_pt h2, know_pt h3, know_pt h4, know_pt h5] at kF
      simp only [ite_self]
      exact kF
    · rw [hfp, Option.getD_some]
      exact hf.same hfp
  | none =>
    have hs := hf p
    rw [hfp] at hs
    have hb9 : (valueAt kvs p).isSome = false := by simp only at hs; rw [hs]; rfl
    cases l with
    | none =>
      simp only [optV] at *
      k_steps
      (rename Fr _ _ _ _ => kF); (rename News _ _ _ _ => kN)
      refine du_cl rfl rfl hd hu X T kF kN hp hl hb rfl rfl rfl fun h' tk' u F N => ?_
      simp only [Bool.true_or] at F
      (try dsimp only)
      k_steps
      (rename Fr _ _ _ _ => kF); (rename News _ _ _ _ => kN); (rename Obj.IsDictOf _ _ _ => kD); (try dsimp only)
      refine ret _ _ _ _ _ (fr_closeN kF fun y hy => ?_) kN kD (stored_length _ _ _) ?_
      · simp only [if_neg (not_in hy (x := (Str.ofString "left")) rfl), ns_di hy, Bool.false_eq_true, if_false, know_pt h1, know_pt h2, know_pt h3, know_pt h4, know_pt h5]
      · rw [hfp, Option.getD_none, left1]
        exact hf.store ⟨_, rfl⟩
    | some x =>
      simp only [optV] at *
      obtain ⟨x0, x1⟩ := hlv x rfl
      k_steps
      (rename Fr _ _ _ _ => kF); (rename News _ _ _ _ => kN)
      refine du_cl rfl rfl hd hu X T kF kN hp hl hb rfl rfl rfl fun h' tk' u F N => ?_
      simp only [Bool.false_or] at F
      (try dsimp only)
      cases hB : cl.any (hitC p) with
      | true =>
        rw [hB] at F
        k_steps
        (rename Fr _ _ _ _ => kF); (rename News _ _ _ _ => kN); (rename Obj.IsDictOf _ _ _ => kD); (try dsimp only)
        refine ret _ _ _ _ _ (fr_closeN kF fun y hy => ?_) kN kD (stored_length _ _ _) ?_
        · simp only [if_neg (not_in hy (x := (Str.ofString "left")) rfl), ns_di hy, Bool.false_eq_true, if_false, know_pt h1, know_pt h2, know_pt h3, know_pt h4, know_pt h5]
        · rw [hfp, Option.getD_none, left2 hB]
          exact hf.store ⟨_, rfl⟩
      | false =>
        rw [hB] at F
        k_steps
        (rename Fr _ _ _ _ => kF); (rename News _ _ _ _ => kN)
        refine du_st rfl rfl hd hu X T kF kN hp2 hl2 hb2 rfl rfl rfl x0 x1 fun h' tk' u F N => ?_
        simp only [Bool.false_or] at F
        (try dsimp only)
        cases hB2 : sl.any (hitS x) with
        | true =>
          rw [hB2] at F
          k_steps
          (rename Fr _ _ _ _ => kF); (rename News _ _ _ _ => kN); (rename Obj.IsDictOf _ _ _ => kD); (try dsimp only)
          refine ret _ _ _ _ _ (fr_closeN kF fun y hy => ?_) kN kD (stored_length _ _ _) ?_
          · simp only [if_neg (not_in hy (x := (Str.ofString "left")) rfl), ns_di hy, Bool.false_eq_true, if_false, know_pt h1, know_pt h2, know_pt h3, know_pt h4, know_pt h5]
          · rw [hfp, Option.getD_none, left3 hB hB2]
            exact hf.store ⟨_, rfl⟩
        | false =>
          rw [hB2] at F
          k_steps
          (rename Fr _ _ _ _ => kF); (rename News _ _ _ _ => kN); (rename Obj.IsDictOf _ _ _ => kD); (try dsimp only)
          refine ret _ _ _ _ _ (fr_closeN kF fun y hy => ?_) kN kD (stored_length _ _ _) ?_
          · simp only [if_neg (not_in hy (x := (Str.ofString "left")) rfl), ns_di hy, Bool.false_eq_true, if_false, know_pt h1, know_pt h2, know_pt h3, know_pt h4, know_pt h5]
          · rw [hfp, Option.getD_none, left3 hB hB2]
            exact hf.store ⟨_, rfl⟩
end
end Mine
open PySem PySem.W PyProof.Rows
set_option Elab.async false
namespace Mine
theorem w_clear_Dx : True := by
  w_top off
  k_with_none
  k_with "callWith" => (k_here; (with_reducible show wpAny _ _ (callWith _ (Value.builtin _) (_ :: _) (backTo _ (starEach (_ :: _) _)) []) _ _ _); (with_reducible refine' PyProof.Rows.callWith_method1 ?_ ?he ?hp); (case he => k_dflt rfl); (case hp => k_dflt rfl))
  k_with "callWith" => (k_here; (with_reducible show wpAny _ _ (callWith _ (Value.builtin _) [] (backTo _ (starEach (_ :: _) _)) []) _ _ _); (with_reducible refine' PyProof.Rows.callWith_builtin1 ?_ ?he ?hp); (case he => k_dflt rfl); (case hp => k_dflt rfl))
  trivial
inductive AsksIn (h : Heap) : List Value → List (Int × Option Int) → Prop
  | nil : AsksIn h [] []
  | cons {a : Addr} {x : Int} {l : Option Int} {t1 t2 : Tok} {n : Nat} {vs xs} : h.get? a = some (tupObj [.int x t1, optV l t2] n) → AsksIn h vs xs → AsksIn h (.ref a :: vs) ((x, l) :: xs)
theorem AsksIn.at {h : Heap} : ∀ {vs : List Value} {xs : List (Int × Option Int)}, AsksIn h vs xs → ∀ {i : Nat} {v : Value}, vs[i]? = some v → ∃ a x l t1 t2 n, v = .ref a ∧ xs[i]? = some (x, l) ∧ h.get? a = some (tupObj [.int x t1, optV l t2] n)
  | _, _, .nil, i, v, hv => by simp at hv
  | _, _, .cons ho hr, 0, v, hv => by
    simp only [List.getElem?_cons_zero, Option.some.injEq] at hv
    subst hv
    exact ⟨_, _, _, _, _, _, rfl, rfl, ho⟩
  | _, _, .cons ho hr, i + 1, v, hv => by
    simp only [List.getElem?_cons_succ] at hv ⊢
    exact AsksIn.at hr hv
theorem AsksIn.length {h : Heap} : ∀ {vs : List Value} {xs : List (Int × Option Int)}, AsksIn h vs xs → vs.length = xs.length
  | _, _, .nil => rfl
  | _, _, .cons _ hr => congrArg (· + 1) hr.length
theorem AsksIn.ref {h : Heap} : ∀ {vs : List Value} {xs : List (Int × Option Int)}, AsksIn h vs xs → ∀ v ∈ vs, ∃ a, v = .ref a
  | _, _, .cons (a := a) ho hr, v, hv => by
    rcases List.mem_cons.mp hv with rfl | hv
    · exact ⟨a, rfl⟩
    · exact hr.ref v hv
noncomputable def dlN : List Str := ["place", "level", "left", "number", "size"].map Str.ofString
theorem ns_dl {y : Str} (h : dlN.contains y = false) : diN.contains y = false := by
  have h1 := not_in h (x := Str.ofString "number") rfl
  have h2 := not_in h (x := Str.ofString "size") rfl
  have h3 := not_in h (x := Str.ofString "left") rfl
  simp [diN, h1, h2, h3]
theorem w_words_Dx_1 : True := by
  k_with "subscriptTail" => (k_here; (with_reducible show wpAny _ _ (subscriptTail _ _ (Value.ref _) (Value.int _ _)) _ _ _); k_dflt (refine' kda_item (knd := intKind _ _) ?kN ?kp ?kd ?kk ?kl ?_; (case kN => k_asm); (case kp => exact .head _); (case kd => assumption); (case kk => exact intKind_is _ _ _ _); (case kl => assumption); k_whole))
  k_with "binaryOp Add str str" => (k_here; k_dflt (refine' PyProof.Rows.add_str ?_ ?ks; (case ks => (rw [bitsT_len, bitT_len, sizeLine_eq]; omega)); k_whole; intro t9 tk9))
  k_with "exec For Tuple Name cons nil" => (k_here; k_dflt (refine' wpAny_For ?_ (by intro _; rfl)))
  trivial
section
variable {w : World} {mean : ExcName → Option Value} {mg mb : Str → Option Value} {h₀ base : Heap} {L fa L0 a0 : Addr} {cd ccd0 : Value} {A₀ : Around} {outer outer0 : List Env} {dp un : Nat} {gd : Option (List Code)} {cn0 : Str} {cs0 : Scope} {cl0 : List (Str × Addr)} {m : Str → Option Value} {news : List (Addr × Obj)} {s : Shared} {Q : Flow → Shared → Prop} {E : Value → Shared → Prop} {st : Stmt} {sc : Scope}
set_option maxRecDepth 100000 in
set_option maxHeartbeats 8000000 in
theorem du_add (hst : duTurn 1 = some st) (hsc : duScope = some sc) (hd : dp + 1 < recursionLimit) (hu : un + 8 * 1 < cLine) (X : (Mine.hd.heap_1 w.params).In h₀) (T : Top Mine.hd.view_1 (looseW Mine.hd.view_1 []) mean mg mb h₀) (F : Fr h₀ L s.heap m) (N : News h₀ L s.heap news) {dF : Addr} {oF : Obj} {rest : List (Addr × Obj)} {p : Int} {tp td : Tok} {b : Bool} {bs : List Bool} (h1 : m (Str.ofString "due") = some (.str (bitsT bs) td)) (h2 : m (Str.ofString "place") = some (.int p tp)) (h3 : m (Str.ofString "first") = some (.ref dF))
    (hn : news = (dF, oF) :: rest) {kvs : List (Int × Value)} (hD : oF.IsDictOf (intKind PySem.Challenge.rw_pg0115_01.row.prog w) kvs) {f : Int → Option Bool} (hf : FirstOk BitV kvs f) (hfp : f p = some b) (hbs : bs.length ≤ 1000)
    (ret : ∀ h' tk' t', Fr h₀ L h' (fun y => if y = (Str.ofString "due") then some (.str (bitsT (bs ++ [b])) t') else m y) → News h₀ L h' news → Q .next { s with heap := h', toks := tk' }) :
    wpAny (model PySem.Challenge.rw_pg0115_01.row.prog w) ((ktrTop dp un gd cn0 cs0 L0 a0 ccd0 cl0 outer0).deeper (envOf duName sc L fa cd)) (exec st (envOf duName sc L fa cd)) Q E s := by
  subst hn
  have hs := hf p
  rw [hfp] at hs
  obtain ⟨v, ⟨t, rfl⟩, hv⟩ := hs
  revert X
  k_fill
  intro X
  cases hst
  cases hsc
  (try dsimp only)
  have F := fr_know3 F h1 h2 h3
  k_steps
  (rename Fr _ _ _ _ => kF); (rename News _ _ _ _ => kN); (try dsimp only)
  rw [← bitsT_snoc] at kF
  exact ret _ _ _ (by (try simp only [know_pt h1, know_pt h2, know_pt h3] at kF); exact kF) kN
set_option maxRecDepth 100000 in
set_option maxHeartbeats 8000000 in
theorem du_in (hsc : duScope = some sc) (hd : dp + 1 < recursionLimit) (hu : un + 8 * 1 < cLine) (X : (Mine.hd.heap_1 w.params).In h₀) (T : Top Mine.hd.view_1 (looseW Mine.hd.view_1 []) mean mg mb h₀) (F : Fr h₀ L s.heap m) (N : News h₀ L s.heap news) {target iter : Expr} {body orelse : List Stmt} {pos : Pos} (hf : duSt 2 = some (.For target iter body orelse pos)) {Q : Unit → Shared → Prop}
    {p : Int} {v : Value} {t1 : Tok} {a : Addr} (hT : IsTup s.heap a #[.int p t1, v])
    (ret : ∀ h' tk', Fr h₀ L h' (fun y => if y = (Str.ofString "level") then some v else if y = (Str.ofString "place") then some (.int p t1) else m y) → News h₀ L h' news → Q () { s with heap := h', toks := tk' }) :
    wpAny (model PySem.Challenge.rw_pg0115_01.row.prog w) ((ktrTop dp un gd cn0 cs0 L0 a0 ccd0 cl0 outer0).deeper (envOf duName sc L fa cd)) (assign target (envOf duName sc L fa cd) (.ref a)) Q E s := by
  revert X
  k_fill
  intro X
  cases hf
  cases hsc
  (try dsimp only)
  k_steps
  (rename Fr _ _ _ _ => kF); (rename News _ _ _ _ => kN); (try dsimp only)
  exact ret _ _ kF kN
noncomputable def DlJ (lf : Int → Option Int → Bool) (asks : List (Int × Option Int)) (prog : Program) (w : World) (dF : Addr) (km : Str → Option Value) (i : Nat) (m' : Str → Option Value) (nx : List (Addr × Obj)) : Prop :=
  ∃ (u : Str → Option Value) (oF : Obj) (kvs : List (Int × Value)) (t : Tok), m' = (fun y => if y = Str.ofString "due" then some (.str (bitsT (runB lf (fun _ => none) (asks.take i)).2) t) else if dlN.contains y = true then u y else km y) ∧
    nx = [(dF, oF)] ∧ oF.IsDictOf (intKind prog w) kvs ∧ FirstOk BitV kvs (runB lf (fun _ => none) (asks.take i)).1 ∧ kvs.length ≤ i
set_option maxRecDepth 100000 in
set_option maxHeartbeats 8000000 in
theorem du_loop (hst : duSt 2 = some st) (hsc : duScope = some sc) (hd : dp + 1 < recursionLimit) (hu : un + 8 * 1 < cLine) (X : (Mine.hd.heap_1 w.params).In h₀) (T : Top Mine.hd.view_1 (looseW Mine.hd.view_1 []) mean mg mb h₀) (F : Fr h₀ L s.heap m) (N : News h₀ L s.heap news) {lc ls la dF : Addr} {oF : Obj} {vs vs2 va : List Value} {cl sl : List (Int × Int)} {asks : List (Int × Option Int)} (hp : PairsIn h₀ vs cl) (hl : h₀.IsList lc vs.toArray) (hb : ∀ c ∈ cl, 1 ≤ c.2 ∧ c.2 ≤ 3)
    (hp2 : PairsIn h₀ vs2 sl) (hl2 : h₀.IsList ls vs2.toArray) (hb2 : ∀ c ∈ sl, 1 ≤ c.2 ∧ c.2 ≤ 2) (hpa : AsksIn h₀ va asks) (hla : h₀.IsList la va.toArray) (hba : ∀ q ∈ asks, ∀ x ∈ q.2, 0 ≤ x ∧ x < 16) (hlen : asks.length ≤ 100)
    {t0 : Tok} (h1 : m (Str.ofString "classes") = some (.ref lc)) (h2 : m (Str.ofString "stretches") = some (.ref ls)) (h3 : m (Str.ofString "asks") = some (.ref la)) (h4 : m (Str.ofString "first") = some (.ref dF)) (h5 : m (Str.ofString "due") = some (.str (Str.ofString "") t0))
    (hn : news = [(dF, oF)]) (lo : (dF == sysModules) = false) (hD : oF.IsDictOf (intKind PySem.Challenge.rw_pg0115_01.row.prog w) [])
    (ret : ∀ h' tk' m' t', Fr h₀ L h' m' → m' (Str.ofString "due") = some (.str (bitsT (runB (leftOf cl sl) (fun _ => none) asks).2) t') → Q .next { s with heap := h', toks := tk' }) :
    wpAny (model PySem.Challenge.rw_pg0115_01.row.prog w) ((ktrTop dp un gd cn0 cs0 L0 a0 ccd0 cl0 outer0).deeper (envOf duName sc L fa cd)) (exec st (envOf duName sc L fa cd)) Q E s := by
  subst hn
  revert X
  k_fill
  intro X
  cases hst
  cases hsc
  (try dsimp only)
  have F := fr_know5 F h5 h1 h2 h3 h4
  k_steps
  (rename Fr _ _ _ _ => kF); (rename News _ _ _ _ => kN)
  obtain ⟨ol, hol, hlc, hld⟩ := id hla
  refine for_list (n₀ := 0) (Nat.zero_le _) (ol := ol) hlc hld (DlJ (leftOf cl sl) asks PySem.Challenge.rw_pg0115_01.row.prog w dF m) rfl (fun i m' nx h' _ F' _ => F'.keep _ _ hol) kF kN ?_ ?_ ?_ ?_
  · refine ⟨m, oF, [], t0, funext fun y => ?_, rfl, hD, fun k => rfl, Nat.le_refl _⟩
    rw [ite_self, know_pt h4, know_pt h3, know_pt h2, know_pt h1]
    rfl
  · exact .inl ⟨rfl, hpa.ref⟩
  · rintro i v m₁ nx h tk I oI _ hv ⟨u, oF, kvs, t, rfl, rfl, hD, hf, hk⟩ F N hn
    obtain ⟨a, x, l, t1, t2, n, rfl, hx, ha⟩ := hpa.at hv
    have hT : IsTup h a #[.int x t1, optV l t2] := ⟨_, F.keep _ _ ha, rfl, n, rfl⟩
    have hi : i < asks.length := (List.getElem?_eq_some_iff.mp hx).1
    have hle : ∀ n, (runB (leftOf cl sl) (fun _ => none) (asks.take n)).2.length ≤ 100 := fun n => by rw [runB_len, List.length_take]; omega
    have hR := runB_take (leftOf cl sl) (fun _ => none) hx
    refine du_in rfl hd hu X T F N rfl hT fun h tk F N => ?_
    refine wpAny_execs_cons ?_
    refine du_if rfl rfl hd hu X T F (news_sub N (n' := [(dF, oF), (I, oI)]) (fun q hq => by simp only [List.mem_cons, List.not_mem_nil, or_false] at hq ⊢; exact hq.symm)) hp hl hb hp2 hl2 hb2 ?_ ?_ rfl rfl ?_ (hba _ (List.mem_of_getElem? hx)) rfl ?_ lo hD hf (by omega) fun h tk u' oF' kvs' F N hD' hk' hf' => ?_
    · exact h1
    · exact h2
    · exact h4
    · intro q hq
      rw [List.mem_singleton.mp hq]
      exact hn.1.symm
    refine wpAny_execs_cons ?_
    refine du_add rfl rfl hd hu X T F N rfl rfl ?_ rfl hD' hf' (b := (runB (leftOf cl sl) (fun _ => none) (asks.take i)).1 x |>.getD (leftOf cl sl x l)) (by simp) (Nat.le_trans (hle i) (by omega)) fun h tk t' F N => ?_
    · exact h4
    refine wpAny_execs_nil ?_
    have hnI : AllNe I [(dF, oF')] := ⟨hn.1, trivial⟩
    refine TEnd.intro F N (.tail _ (.head _)) (fun q hq => by rw [List.mem_singleton.mp hq]; exact .head _) hnI ⟨_, oF', kvs', t', map_close (by rw [hR]; rfl) (fun y hy hn => ?_), rfl, hD', by rw [hR]; exact hf', by omega⟩
    simp only [if_neg hy, if_neg (not_in hn (x := (Str.ofString "place")) rfl), if_neg (not_in hn (x := (Str.ofString "level")) rfl), ns_dl hn, hn, Bool.false_eq_true, if_false]
  · rintro m₁ nx h tk _ ⟨u, oF, kvs, t, rfl, rfl, hD, hf, hk⟩ F N
    have hle := hpa.length
    rw [hle, List.take_length] at F
    exact ret h tk _ t F rfl
end
end Mine
open PySem PySem.W PyProof.Rows
set_option Elab.async false
namespace Mine
theorem w_clear_C9 : True := by
  w_top off
  k_with_none
  k_with "callWith" => (k_here; (with_reducible show wpAny _ _ (callWith _ (Value.builtin _) (_ :: _) (backTo _ (starEach (_ :: _) _)) []) _ _ _); (with_reducible refine' PyProof.Rows.callWith_method1 ?_ ?he ?hp); (case he => k_dflt rfl); (case hp => k_dflt rfl))
  k_with "callWith" => (k_here; (with_reducible show wpAny _ _ (callWith _ (Value.builtin _) [] (backTo _ (starEach (_ :: _) _)) []) _ _ _); (with_reducible refine' PyProof.Rows.callWith_builtin1 ?_ ?he ?hp); (case he => k_dflt rfl); (case hp => k_dflt rfl))
  trivial
noncomputable def OutS' (x : Str) (tl : List (Addr × Obj)) (r : Value) : Prop := ∃ t, r = .str x t ∧ tl = []
noncomputable def DuePre (lc ls la : Addr) (vs vs2 va : List Value) (cl sl : List (Int × Int)) (asks : List (Int × Option Int)) (h : Heap) : Prop :=
  PairsIn h vs cl ∧ h.IsList lc vs.toArray ∧ PairsIn h vs2 sl ∧ h.IsList ls vs2.toArray ∧ AsksIn h va asks ∧ h.IsList la va.toArray
set_option maxRecDepth 100000 in
set_option maxHeartbeats 8000000 in
theorem c_due (w : World) {lc ls la : Addr} {vs vs2 va : List Value} {cc ss : List (Int × Int)} {asks : List (Int × Option Int)} (hb : ∀ c ∈ cc, 1 ≤ c.2 ∧ c.2 ≤ 3) (hb2 : ∀ c ∈ ss, 1 ≤ c.2 ∧ c.2 ≤ 2) (hba : ∀ q ∈ asks, ∀ x ∈ q.2, 0 ≤ x ∧ x < 16) (hlen : asks.length ≤ 100) :
    Ctr w 146 1 [.ref lc, .ref ls, .ref la] (DuePre lc ls la vs vs2 va cc ss asks) (OutS' (bitsT (runB (leftOf cc ss) (fun _ => none) asks).2)) := by
  unfold Ctr
  k_fill
  intro mean mg mb dp un gd cn cs a ccd cl outer A₀ base h₀ L m s Q E B F X T hk hpre hd hu hret
  refine wpAny_call ?_
  k_dflt (refine' callV (P := DuePre lc ls la vs vs2 va cc ss asks) hpre ?k1 ?k2 ?k3 ?k5 ?kA ?kF ?kK ?k6 ?k7 ?k8 ?k9 ?kB ?_ ?c2 ?c3 ?c4 ?c5; (case kA => exact rfl); (case kF => exact rfl); (case kK => assumption); (case k1 => k_asm); (case k2 => k_asm); (case k3 => k_asm); (case k5 => k_asm); (case k6 => k_is); (case k7 => k_is); (case k8 => ktr_room); (case k9 => exact BindsTo.of_eq rfl); (case c5 => decide); (case kB => exact locs rfl); (case c2 => exact rfl); (case c3 => exact rfl); (case c4 => exact rfl); k_whole)
  intro g' L' h' hpre' hst' F' N' B' X' T'
  clear B F X T hpre
  (try dsimp only)
  (try k_fold)
  obtain ⟨hp, hl, hp2, hl2, hpa, hla⟩ := hpre'
  k_steps
  (rename Fr _ _ _ _ => kF)
  refine du_loop rfl rfl hd hu X' T' kF (by assumption) hp hl hb hp2 hl2 hb2 hpa hla hba hlen rfl rfl rfl rfl rfl rfl (by assumption) (by assumption) fun h9 tk9 m9 t9 F9 e9 => ?_
  have F := fr_know1 F9 e9
  have N9 : News g' L' h9 [] := fun _ h => nomatch h
  (try dsimp only)
  k_steps
  exact hret _ [] _ _ (kept_of hst' (by assumption)) (fun _ h => nomatch h) ⟨_, rfl, rfl⟩
end Mine
open PySem PySem.W PyProof.Rows
set_option Elab.async false
namespace Mine
theorem w_clear_Rb : True := by
  w_top off
  k_with_none
  k_with "callWith" => (k_here; (with_reducible show wpAny _ _ (callWith _ (Value.builtin _) (_ :: _) (backTo _ (starEach (_ :: _) _)) []) _ _ _); (with_reducible refine' PyProof.Rows.callWith_method1 ?_ ?he ?hp); (case he => k_dflt rfl); (case hp => k_dflt rfl))
  k_with "callWith" => (k_here; (with_reducible show wpAny _ _ (callWith _ (Value.builtin _) [] (backTo _ (starEach (_ :: _) _)) []) _ _ _); (with_reducible refine' PyProof.Rows.callWith_builtin1 ?_ ?he ?hp); (case he => k_dflt rfl); (case hp => k_dflt rfl))
  trivial
open PyProof.Rows.LCg
inductive AsksL (nl : List (Addr × Obj)) : List Value → List (Int × Option Int) → Prop
  | nil : AsksL nl [] []
  | cons {a : Addr} {x : Int} {l : Option Int} {t1 t2 : Tok} {n : Nat} {vs xs} : (a, tupObj [.int x t1, optV l t2] n) ∈ nl → AsksL nl vs xs → AsksL nl (.ref a :: vs) ((x, l) :: xs)
theorem AsksL.toIn {h₀ h : Heap} {L : Addr} {nl : List (Addr × Obj)} (N : News h₀ L h nl) : ∀ {vs : List Value} {xs : List (Int × Option Int)}, AsksL nl vs xs → AsksIn h vs xs
  | _, _, .nil => .nil
  | _, _, .cons hm hr => .cons (N _ hm).1 (hr.toIn N)
theorem AsksL.mono {nl nl' : List (Addr × Obj)} (hs : ∀ p ∈ nl, p ∈ nl') : ∀ {vs : List Value} {xs : List (Int × Option Int)}, AsksL nl vs xs → AsksL nl' vs xs
  | _, _, .nil => .nil
  | _, _, .cons hm hr => .cons (hs _ hm) (hr.mono hs)
theorem AsksL.snoc {nl : List (Addr × Obj)} {a : Addr} {x : Int} {l : Option Int} {t1 t2 : Tok} {n : Nat} (hm : (a, tupObj [.int x t1, optV l t2] n) ∈ nl) : ∀ {vs : List Value} {xs : List (Int × Option Int)}, AsksL nl vs xs → AsksL nl (vs ++ [.ref a]) (xs ++ [(x, l)])
  | _, _, .nil => .cons hm .nil
  | _, _, .cons h hr => .cons h (hr.snoc hm)
theorem PairsL.at {nl : List (Addr × Obj)} : ∀ {vs : List Value} {xs : List (Int × Int)}, PairsL nl vs xs → ∀ {i : Nat} {v : Value}, vs[i]? = some v → ∃ a x y t1 t2 n, v = .ref a ∧ xs[i]? = some (x, y) ∧ (a, tupObj [.int x t1, .int y t2] n) ∈ nl
  | _, _, .nil, i, v, hv => by simp at hv
  | _, _, .cons ho hr, 0, v, hv => by
    simp only [List.getElem?_cons_zero, Option.some.injEq] at hv
    subst hv
    exact ⟨_, _, _, _, _, _, rfl, rfl, ho⟩
  | _, _, .cons ho hr, i + 1, v, hv => by
    simp only [List.getElem?_cons_succ] at hv ⊢
    exact PairsL.at hr hv
noncomputable def sp0 : Spot := ⟨0, 0, 1, true⟩
/-- what is asked: the place of one spot, the level of another -/
noncomputable def asksI (qs : List Spot) (idx : List (Int × Int)) : List (Int × Option Int) := idx.map fun c => ((qs.getD c.1.toNat sp0).p, if (qs.getD c.2.toNat sp0).k then some (qs.getD c.2.toNat sp0).l else none)
noncomputable def AsJ (asks : List (Int × Option Int)) (news : List (Addr × Obj)) (i : Nat) (ys : List Value) (nx : List (Addr × Obj)) : Prop := (∀ p ∈ news, p ∈ nx) ∧ AsksL nx ys (asks.take i)
theorem asj_next {asks : List (Int × Option Int)} {news nx : List (Addr × Obj)} {i : Nat} {ys : List Value} {a : Addr} {x : Int} {l : Option Int} {t1 t2 : Tok} {n : Nat} (hs : ∀ p ∈ news, p ∈ nx) (hP : AsksL nx ys (asks.take i)) (e : asks[i]? = some (x, l)) : AsJ asks news (i + 1) (ys ++ [.ref a]) ((a, tupObj [.int x t1, optV l t2] n) :: nx) := by
  refine ⟨fun p hp => .tail _ (hs p hp), ?_⟩
  rw [List.take_add_one, e]
  exact (hP.mono fun _ h => .tail _ h).snoc (.head _)
theorem item_led {prog : Program} {w : World} {A : Around} {E : Value → Shared → Prop} {s : Shared} {value slice : PySem.Expr} {h₀ : Heap} {L : Addr} {news : List (Addr × Obj)} {l : Addr} {vs : List Value} {n : Nat} {k : Int} {u : Tok} {v : Value} {Q : Value → Shared → Prop}
    (N : News h₀ L s.heap news) (hl : (l, W.listOf vs.toArray n) ∈ news) (hx : vs[k.toNat]? = some v) (h0 : 0 ≤ k ∧ k < 2 ^ 63) (h : Q v s)
    (hs : subscripted slice false (.ref l) (.int k u) = operate [.ref l, .int k u] (getItem (.ref l) (.int k u)) := by with_unfolding_all rfl) :
    wpAny (model prog w) A (subscriptTail value slice (.ref l) (.int k u)) Q E s := by
  have hl' : s.heap.IsList l vs.toArray := ⟨_, (N _ hl).1, rfl, _, rfl⟩
  exact tail_any hl'.typeIs slot_list_getitem.lookup (wpAny_getItem_list hl' h0.1 h0.2 (by simpa using hx) h) hs
theorem news_skip4 {h₀ h : Heap} {L : Addr} {a b c d x y z u : Addr × Obj} {nx : List (Addr × Obj)} (N : News h₀ L h (a :: b :: c :: d :: x :: y :: z :: u :: nx)) : News h₀ L h (a :: b :: c :: d :: nx) := fun p hp => N p (by
  simp only [List.mem_cons] at hp ⊢
  rcases hp with h | h | h | h | h <;> simp [h])
theorem spots_at {tT : List (Addr × Obj)} {us : List Value} {qs : List Spot} (h : DatAll tT us (qs.map Spot.dat)) {i : Nat} (hi : i < qs.length) : ∃ a t1 t2 t3 n, us[i]? = some (.ref a) ∧ (a, tupObj [.int (qs.getD i sp0).p t1, .int (qs.getD i sp0).l t2, .int (qs.getD i sp0).s t3, .bool (qs.getD i sp0).k] n) ∈ tT := by
  have hl := h.length
  rw [List.length_map] at hl
  have hv : us[i]? = some (us[i]'(by omega)) := List.getElem?_eq_getElem (by omega)
  obtain ⟨q, hq, a, t1, t2, t3, n, e, hm⟩ := spot_at h hv
  have e2 : qs.getD i sp0 = q := by rw [List.getD_eq_getElem?_getD, hq]; rfl
  exact ⟨a, t1, t2, t3, n, by rw [hv, e], by rw [e2]; exact hm⟩
theorem w_words_Rb_1 : True := by
  k_with "subscriptTail" => (k_here; (with_reducible show wpAny _ _ (subscriptTail _ _ (Value.ref _) (Value.int _ _)) _ _ _); k_dflt (refine' item_led ?kN ?kl ?kx ?k0 ?_ ?k6; (case kN => k_asm); (case kl => k_mem); (case kx => assumption); (case k0 => assumption); (case k6 => with_unfolding_all rfl); k_whole))
  k_with "eval ListComp" => (k_here; k_dflt (refine comp2_evalFr (by k_asm) (by with_unfolding_all rfl) (by decide) (by rfl) (by decide) (by rfl) (by rfl) (by decide) rfl ?_))
  k_with "call ref" => (k_here; k_dflt (refine' Ctr.useS (c_due _ (by assumption) (by assumption) (by assumption) (by assumption)) ?k1 ?k2 ?k3 ?k4 ?k5 ?kK ?kp ?kd ?ku ?_; (case k1 => k_asm); (case k2 => k_asm); (case k3 => k_asm); (case k4 => k_asm); (case k5 => k_asm); (case kK => exact rfl); (case kp => (assumption)); (case kd => ktr_room); (case ku => ktr_units); k_whole; intro a9 h9 tk9 F9 N9; (try dsimp only)))
  trivial
section
variable {w : World} {mean : ExcName → Option Value} {mg mb : Str → Option Value} {h₀ : Heap} {L fa : Addr} {cd : Value} {m : Str → Option Value} {news : List (Addr × Obj)} {s : Shared} {Q : Flow → Shared → Prop} {E : Value → Shared → Prop} {st : Stmt} {sc : Scope}
set_option maxRecDepth 100000 in
set_option maxHeartbeats 8000000 in
theorem law12 (hst : lawSt 12 = some st) (hsc : lawScope = some sc) (B : Below callerA h₀ [] h₀) (X : (Mine.hd.heap_1 w.params).In h₀) (T : Top Mine.hd.view_1 (looseW Mine.hd.view_1 []) mean mg mb h₀) (F : Fr h₀ L s.heap m) (N : News h₀ L s.heap news) {ls lp lc lt : Addr} {vs ps vC vS : List Value} {k k2 k3 k4 : Nat} {oS : Obj} {tT : List (Addr × Obj)} {qs : List Spot} {idx cc ss : List (Int × Int)} (h1 : m (Str.ofString "pairs") = some (.ref lp)) (h2 : m (Str.ofString "classes") = some (.ref lc)) (h3 : m (Str.ofString "stretches") = some (.ref lt))
    (hp : (lp, W.listOf ps.toArray k2) ∈ news) (hP : PairsL news ps idx) (hl : (ls, W.listOf vs.toArray k) ∈ news) (hT : ∀ p ∈ tT, p ∈ news) (hD : DatAll tT vs (qs.map Spot.dat)) (hc : (L + 1, oS) ∈ news) (dS : oS.data = .cell (some (.ref ls)))
    (hC : (lc, W.listOf vC.toArray k3) ∈ news) (hPC : PairsL news vC cc) (hS : (lt, W.listOf vS.toArray k4) ∈ news) (hPS : PairsL news vS ss)
    (hb : ∀ c ∈ cc, 1 ≤ c.2 ∧ c.2 ≤ 3) (hb2 : ∀ c ∈ ss, 1 ≤ c.2 ∧ c.2 ≤ 2) (hok : ∀ q ∈ qs, q.Ok) (hidx : ∀ c ∈ idx, 0 ≤ c.1 ∧ c.1 < qs.length ∧ 0 ≤ c.2 ∧ c.2 < qs.length) (hlen : idx.length ≤ 100) (hql : qs.length ≤ 100)
    (ret : ∀ h' tk' d' t nx, Fr h₀ L h' (fun y => if y = (Str.ofString "due") then some (.str (bitsT (runB (leftOf cc ss) (fun _ => none) (asksI qs idx)).2) t) else m y) → News h₀ L h' nx → (∀ p ∈ news, p ∈ nx) → Q .next { s with heap := h', toks := tk', drawn := d' }) :
    wpAny (model PySem.Challenge.rw_pg0115_01.row.prog w) (callerA.deeper (envOfC (Str.ofString "law") sc L fa cd)) (exec st (envOfC (Str.ofString "law") sc L fa cd)) Q E s := by
  revert X
  k_fill
  intro X
  cases hst
  cases hsc
  (try dsimp only)
  have F := fr_know3 F h1 h2 h3
  have N0 := N
  k_steps
  (rename Fr _ _ _ _ => kF); (rename News _ _ _ _ => kN)
  refine ⟨lp, ps, news, AsJ (asksI qs idx) news, rfl, kF, kN, ⟨fun _ h => h, .nil⟩, by rw [sizeLine_eq, hP.length]; omega, ⟨?_, ?_⟩, ?_⟩
  · rintro i ys nx h ⟨hs, _⟩ F N
    exact ⟨_, (N _ (hs _ hp)).1, rfl, _, rfl⟩
  · rintro i ys nx h v ⟨hs, hA⟩ hv F N
    obtain ⟨a, p, q, u1, u2, n, rfl, hx, ha⟩ := hP.at hv
    refine ⟨a, _, _, rfl, ⟨_, (N _ (hs _ ha)).1, rfl, n, rfl⟩, ?_⟩
    obtain ⟨p0, p1, q0, q1⟩ := hidx _ (List.mem_of_getElem? hx)
    simp only at p0 p1 q0 q1
    obtain ⟨a1, v1, v2, v3, n1, g1, m1⟩ := spots_at hD (i := p.toNat) (by omega)
    obtain ⟨a2, w1, w2, w3, n2, g2, m2⟩ := spots_at hD (i := q.toNat) (by omega)
    have hask : (asksI qs idx)[i]? = some ((qs.getD p.toNat sp0).p, if (qs.getD q.toNat sp0).k then some (qs.getD q.toNat sp0).l else none) := by
      unfold asksI
      rw [List.getElem?_map, hx, Option.map_some]
    have b1 : 0 ≤ p ∧ p < 2 ^ 63 := ⟨p0, by omega⟩
    have b2 : 0 ≤ q ∧ q < 2 ^ 63 := ⟨q0, by omega⟩
    generalize (qs.getD p.toNat sp0).p = p9 at *
    generalize (qs.getD p.toNat sp0).l = l8 at *
    generalize (qs.getD p.toNat sp0).s = s8 at *
    generalize (qs.getD p.toNat sp0).k = k8 at *
    generalize (qs.getD q.toNat sp0).p = p7 at *
    generalize (qs.getD q.toNat sp0).l = l9' at *
    generalize (qs.getD q.toNat sp0).s = s9 at *
    generalize (qs.getD q.toNat sp0).k = k9 at *
    intro I oI C oC D m₂ h tk d E' hC hv1 hv2 F N off ne
    (try dsimp only)
    clear ret kF kN
    have N : News h₀ L h ((I, oI) :: (C, oC) :: (D, lst ys) :: (ls, W.listOf vs.toArray k) :: (L + 1, oS) :: (a1, tupObj [.int p9 v1, .int l8 v2, .int s8 v3, .bool k8] n1) :: (a2, tupObj [.int p7 w1, .int l9' w2, .int s9 w3, .bool k9] n2) :: nx) := fun p hp' => N p (by
      simp only [List.mem_cons] at hp' ⊢
      rcases hp' with h | h | h | h | h | h | h | h
      · simp [h]
      · simp [h]
      · simp [h]
      · rw [h]; exact .inr (.inr (.inr (hs _ hl)))
      · rw [h]; exact .inr (.inr (.inr (hs _ hc)))
      · rw [h]; exact .inr (.inr (.inr (hs _ (hT _ m1))))
      · rw [h]; exact .inr (.inr (.inr (hs _ (hT _ m2))))
      · simp [h])
    cases k9
    · k_steps
      (rename _ ∧ _ ∧ _ ∧ _ => l9); (rename Fr _ _ _ _ => kF); (rename News _ _ _ _ => kN); (try dsimp only)
      exact cend_tup kF (news_skip4 kN) ⟨l9.1, l9.2.1, l9.2.2.1, l9.2.2.2.2.2.2.2⟩ off (asj_next (l := none) (t2 := 0) hs hA hask)
    · k_steps
      (rename _ ∧ _ ∧ _ ∧ _ => l9); (rename Fr _ _ _ _ => kF); (rename News _ _ _ _ => kN); (try dsimp only)
      exact cend_tup kF (news_skip4 kN) ⟨l9.1, l9.2.1, l9.2.2.1, l9.2.2.2.2.2.2.2⟩ off (asj_next (l := some l9') hs hA hask)
  · rintro D h tk d ys nx F N o1 ⟨hs, hA⟩
    have hal : (asksI qs idx).length = idx.length := by simp [asksI]
    rw [hP.length, ← hal, List.take_length] at hA
    have N3 : News h₀ L h nx := fun p hp' => N p (.tail _ hp')
    have hpre : DuePre lc lt D vC vS ys cc ss (asksI qs idx) h := ⟨(hPC.mono hs).toIn N3, ⟨_, (N3 _ (hs _ hC)).1, rfl, _, rfl⟩, (hPS.mono hs).toIn N3, ⟨_, (N3 _ (hs _ hS)).1, rfl, _, rfl⟩, hA.toIn N3, ⟨_, (N _ (.head _)).1, rfl, _, rfl⟩⟩
    have hba : ∀ q ∈ asksI qs idx, ∀ x ∈ q.2, 0 ≤ x ∧ x < 16 := by
      intro q hq x hx
      obtain ⟨c, hc, rfl⟩ := List.mem_map.mp hq
      obtain ⟨_, _, c0, c1⟩ := hidx c hc
      have hm : qs.getD c.2.toNat sp0 ∈ qs := by
        rw [List.getD_eq_getElem?_getD, List.getElem?_eq_getElem (by omega)]
        exact List.getElem_mem _
      obtain ⟨_, _, l0, l1, _, _⟩ := hok _ hm
      simp only at hx
      split at hx
      · rw [Option.mem_def, Option.some.injEq] at hx
        rw [← hx]; exact ⟨l0, l1⟩
      · cases hx
    have hal2 : (asksI qs idx).length ≤ 100 := by omega
    clear kF kN
    k_steps
    (rename Fr _ _ _ _ => kF); (rename News _ _ _ _ => kN); (try dsimp only)
    exact ret _ _ _ _ _ (by (try simp only [know_pt h1, know_pt h2, know_pt h3] at kF); exact kF) kN hs
end
end Mine
open PySem PySem.W PyProof.Rows
set_option Elab.async false
namespace Mine
theorem w_clear_Rc : True := by
  w_top off
  k_with_none
  k_with "callWith" => (k_here; (with_reducible show wpAny _ _ (callWith _ (Value.builtin _) (_ :: _) (backTo _ (starEach (_ :: _) _)) []) _ _ _); (with_reducible refine' PyProof.Rows.callWith_method1 ?_ ?he ?hp); (case he => k_dflt rfl); (case hp => k_dflt rfl))
  k_with "callWith" => (k_here; (with_reducible show wpAny _ _ (callWith _ (Value.builtin _) [] (backTo _ (starEach (_ :: _) _)) []) _ _ _); (with_reducible refine' PyProof.Rows.callWith_builtin1 ?_ ?he ?hp); (case he => k_dflt rfl); (case hp => k_dflt rfl))
  trivial
open PyProof.Rows.LCg
theorem CtrD.use {w : World} {f : Addr} {dep : Nat} {vs : List Value} {Pre : Heap → Prop} {x : Str} (C : CtrD w f dep vs Pre (OutS' x))
    {mean : ExcName → Option Value} {mg mb : Str → Option Value} {dp un : Nat} {gd : Option (List Code)} {cn : Str} {cs : Scope} {a : Addr} {ccd : Value} {cl : List (Str × Addr)} {outer : List Env} {A₀ : Around} {base h₀ : Heap} {L : Addr} {m : Str → Option Value} {news : List (Addr × Obj)} {s : Shared}
    {Q E : Value → Shared → Prop} (B : Below A₀ base outer h₀) (F : Fr h₀ L s.heap m) (X : (Mine.hd.heap_1 w.params).In h₀) (N : News h₀ L s.heap news) (T : Top Mine.hd.view_1 (looseW Mine.hd.view_1 []) mean mg mb h₀) (hk : cs.kind = .function)
    (hp : Pre s.heap) (hd : dp + dep < recursionLimit) (hu : un + 8 * dep < cLine)
    (ret : ∀ h' tk' d' t, Fr h₀ L h' m → News h₀ L h' news → Q (.str x t) { s with heap := h', toks := tk', drawn := d' }) :
    wpAny (model PySem.Challenge.rw_pg0115_01.row.prog w) (ktrTop dp un gd cn cs L a ccd cl outer) (call (.ref f) vs) Q E s := by
  refine C _ _ _ _ _ _ _ _ _ _ _ _ _ _ _ _ _ _ _ _ B F X T hk hp hd hu fun r tl h' tk' d' kp kt ho => ?_
  obtain ⟨t, rfl, rfl⟩ := ho
  exact ret h' tk' d' t (F.grownK kp) fun p hp => ⟨kp _ _ (N p hp).1, (N p hp).2⟩
theorem w_words_Rc_1 : True := by
  k_with "call ref" => (k_here; k_dflt (refine' CtrD.use (by assumption) ?k1 ?k2 ?k3 ?k4 ?k5 ?kK ?kp ?kd ?ku ?_; (case k1 => k_asm); (case k2 => k_asm); (case k3 => k_asm); (case k4 => k_asm); (case k5 => k_asm); (case kK => exact rfl); (case kp => assumption); (case kd => ktr_room); (case ku => ktr_units); k_whole; intro h9 tk9 d9 t9 F9 N9))
  trivial
section
variable {w : World} {mean : ExcName → Option Value} {mg mb : Str → Option Value} {h₀ : Heap} {L fa : Addr} {cd : Value} {m : Str → Option Value} {news : List (Addr × Obj)} {s : Shared} {Q : Flow → Shared → Prop} {E : Value → Shared → Prop} {st : Stmt} {sc : Scope}
set_option maxRecDepth 100000 in
set_option maxHeartbeats 8000000 in
theorem law13 (hst : lawSt 13 = some st) (hsc : lawScope = some sc) (B : Below callerA h₀ [] h₀) (X : (Mine.hd.heap_1 w.params).In h₀) (T : Top Mine.hd.view_1 (looseW Mine.hd.view_1 []) mean mg mb h₀) (F : Fr h₀ L s.heap m) (N : News h₀ L s.heap news) {lc lt lm lf lp : Addr} {t : Tok} {bs : List Bool} {P : Heap → Prop} (C : CtrD w 151 12 [.ref lc, .ref lt, .ref lm, .ref lf, .ref lp] P (OutS' (bitsT bs))) (hP : P s.heap)
    (h1 : m (Str.ofString "classes") = some (.ref lc)) (h2 : m (Str.ofString "stretches") = some (.ref lt)) (h3 : m (Str.ofString "modules") = some (.ref lm)) (h4 : m (Str.ofString "files") = some (.ref lf)) (h5 : m (Str.ofString "pairs") = some (.ref lp)) (h6 : m (Str.ofString "due") = some (.str (bitsT bs) t))
    (ret : ∀ h' tk' d', Fr h₀ L h' m → News h₀ L h' news → Q .next { s with heap := h', toks := tk', drawn := d' }) :
    wpAny (model PySem.Challenge.rw_pg0115_01.row.prog w) (callerA.deeper (envOfC (Str.ofString "law") sc L fa cd)) (exec st (envOfC (Str.ofString "law") sc L fa cd)) Q E s := by
  revert X
  k_fill
  intro X
  cases hst
  cases hsc
  (try dsimp only)
  have F := fr_know6 F h1 h2 h3 h4 h5 h6
  k_steps
  · exfalso
    (rename (bitsT bs != bitsT bs) = true => hx)
    simp at hx
  · (rename Fr _ _ _ _ => kF); (rename News _ _ _ _ => kN); (try dsimp only)
    exact ret _ _ _ (by (try simp only [know_pt h1, know_pt h2, know_pt h3, know_pt h4, know_pt h5, know_pt h6] at kF); exact kF) kN
set_option maxRecDepth 100000 in
set_option maxHeartbeats 8000000 in
theorem law16 (hst : lawSt 16 = some st) (hsc : lawScope = some sc) (B : Below callerA h₀ [] h₀) (X : (Mine.hd.heap_1 w.params).In h₀) (T : Top Mine.hd.view_1 (looseW Mine.hd.view_1 []) mean mg mb h₀) (F : Fr h₀ L s.heap m) (N : News h₀ L s.heap news) {lc lt lm lf lp : Addr} {t : Tok} {bs : List Bool} {P : Heap → Prop} (C : CtrD w 151 12 [.ref lc, .ref lt, .ref lm, .ref lf, .ref lp] P (OutS' (bitsT bs))) (hP : P s.heap)
    (h1 : m (Str.ofString "far_classes") = some (.ref lc)) (h2 : m (Str.ofString "far_stretches") = some (.ref lt)) (h3 : m (Str.ofString "far_modules") = some (.ref lm)) (h4 : m (Str.ofString "far_files") = some (.ref lf)) (h5 : m (Str.ofString "pairs") = some (.ref lp)) (h6 : m (Str.ofString "due") = some (.str (bitsT bs) t))
    (ret : ∀ h' tk' d', Fr h₀ L h' m → News h₀ L h' news → Q (.ret (.bool true)) { s with heap := h', toks := tk', drawn := d' }) :
    wpAny (model PySem.Challenge.rw_pg0115_01.row.prog w) (callerA.deeper (envOfC (Str.ofString "law") sc L fa cd)) (exec st (envOfC (Str.ofString "law") sc L fa cd)) Q E s := by
  revert X
  k_fill
  intro X
  cases hst
  cases hsc
  (try dsimp only)
  have F := fr_know6 F h1 h2 h3 h4 h5 h6
  k_steps
  (rename Fr _ _ _ _ => kF); (rename News _ _ _ _ => kN); (try dsimp only)
  rw [show (bitsT bs == bitsT bs) = true by simp]
  exact ret _ _ _ (by (try simp only [know_pt h1, know_pt h2, know_pt h3, know_pt h4, know_pt h5, know_pt h6] at kF); exact kF) kN
end
end Mine
open PySem PySem.W PyProof.Rows
set_option Elab.async false
namespace Mine
theorem w_clear_Rd : True := by
  w_top off
  k_with_none
  k_with "callWith" => (k_here; (with_reducible show wpAny _ _ (callWith _ (Value.builtin _) (_ :: _) (backTo _ (starEach (_ :: _) _)) []) _ _ _); (with_reducible refine' PyProof.Rows.callWith_method1 ?_ ?he ?hp); (case he => k_dflt rfl); (case hp => k_dflt rfl))
  k_with "callWith" => (k_here; (with_reducible show wpAny _ _ (callWith _ (Value.builtin _) [] (backTo _ (starEach (_ :: _) _)) []) _ _ _); (with_reducible refine' PyProof.Rows.callWith_builtin1 ?_ ?he ?hp); (case he => k_dflt rfl); (case hp => k_dflt rfl))
  trivial
open PyProof.Rows.LCg
/-- a class as it is moved -/
noncomputable def moveC (mi : Bool) (tn : Int) (c : Int × Int) : Int × Int := ((if mi then tn - c.1 else tn + c.1).fmod (4 ^ c.2.toNat), c.2)
noncomputable def moveS (fl : Bool) (c : Int × Int) : Int × Int := (if fl then 4 ^ c.2.toNat - 1 - c.1 else c.1, c.2)
noncomputable def MvJ (f : Int × Int → Int × Int) (xs : List (Int × Int)) (news : List (Addr × Obj)) (i : Nat) (ys : List Value) (nx : List (Addr × Obj)) : Prop := (∀ p ∈ news, p ∈ nx) ∧ PairsL nx ys ((xs.take i).map f)
theorem mvj_next {f : Int × Int → Int × Int} {xs : List (Int × Int)} {news nx : List (Addr × Obj)} {i : Nat} {ys : List Value} {a : Addr} {x : Int × Int} {y z : Int} {t1 t2 : Tok} {n : Nat} (hs : ∀ p ∈ news, p ∈ nx) (hP : PairsL nx ys ((xs.take i).map f)) (hx : xs[i]? = some x) (e : f x = (y, z)) : MvJ f xs news (i + 1) (ys ++ [.ref a]) ((a, tupObj [.int y t1, .int z t2] n) :: nx) := by
  refine ⟨fun p hp => .tail _ (hs p hp), ?_⟩
  rw [List.take_add_one, hx, List.map_append]
  show PairsL _ _ (_ ++ [f x])
  rw [e]
  exact (hP.mono fun _ h => .tail _ h).snoc (.head _)
theorem news_skip1 {h₀ h : Heap} {L : Addr} {a b c d x : Addr × Obj} {nx : List (Addr × Obj)} (N : News h₀ L h (a :: b :: c :: d :: x :: nx)) : News h₀ L h (a :: b :: c :: d :: nx) := fun p hp => N p (by
  simp only [List.mem_cons] at hp ⊢
  rcases hp with h | h | h | h | h <;> simp [h])
section
variable {w : World} {mean : ExcName → Option Value} {mg mb : Str → Option Value} {h₀ : Heap} {L fa : Addr} {cd : Value} {m : Str → Option Value} {news : List (Addr × Obj)} {s : Shared} {Q : Flow → Shared → Prop} {E : Value → Shared → Prop} {st : Stmt} {sc : Scope}
set_option maxRecDepth 100000 in
set_option maxHeartbeats 8000000 in
theorem law14 (hst : lawSt 14 = some st) (hsc : lawScope = some sc) (B : Below callerA h₀ [] h₀) (X : (Mine.hd.heap_1 w.params).In h₀) (T : Top Mine.hd.view_1 (looseW Mine.hd.view_1 []) mean mg mb h₀) (F : Fr h₀ L s.heap m) (N : News h₀ L s.heap news) {lc : Addr} {vC : List Value} {k3 : Nat} {oT oM : Obj} {tn : Int} {tt : Tok} {mi : Bool} {cc : List (Int × Int)} (h1 : m (Str.ofString "classes") = some (.ref lc))
    (hC : (lc, W.listOf vC.toArray k3) ∈ news) (hPC : PairsL news vC cc) (hT : (L + 1 + 1, oT) ∈ news) (dT : oT.data = .cell (some (.int tn tt))) (hM : (L + 1 + 1 + 1, oM) ∈ news) (dM : oM.data = .cell (some (.bool mi)))
    (hb : ∀ c ∈ cc, 1 ≤ c.2 ∧ c.2 ≤ 3) (hlen : cc.length ≤ 100)
    (ret : ∀ h' tk' d' D ys nx, Fr h₀ L h' (fun y => if y = (Str.ofString "far_classes") then some (.ref D) else m y) → News h₀ L h' ((D, lst ys) :: nx) → (∀ p ∈ news, p ∈ nx) → PairsL nx ys (cc.map (moveC mi tn)) → Q .next { s with heap := h', toks := tk', drawn := d' }) :
    wpAny (model PySem.Challenge.rw_pg0115_01.row.prog w) (callerA.deeper (envOfC (Str.ofString "law") sc L fa cd)) (exec st (envOfC (Str.ofString "law") sc L fa cd)) Q E s := by
  revert X
  k_fill
  intro X
  cases hst
  cases hsc
  (try dsimp only)
  have F := fr_know1 F h1
  k_dflt (refine comp2_assign (h₀ := h₀) (m := fun y => if y = (Str.ofString "classes") then some (.ref lc) else m y) rfl (by with_unfolding_all rfl) (by with_unfolding_all rfl) (by decide) (by rfl) (by decide) (by rfl) (by rfl) (by decide) rfl (by rfl) (by rfl) ?_)
  k_steps
  (rename Fr _ _ _ _ => kF); (rename News _ _ _ _ => kN)
  refine ⟨lc, vC, news, MvJ (moveC mi tn) cc news, rfl, kF, kN, ⟨fun _ h => h, .nil⟩, by rw [sizeLine_eq, hPC.length]; omega, ⟨?_, ?_⟩, ?_⟩
  · rintro i ys nx h ⟨hs, _⟩ F N
    exact ⟨_, (N _ (hs _ hC)).1, rfl, _, rfl⟩
  · rintro i ys nx h v ⟨hs, hA⟩ hv F N
    obtain ⟨a, x, y, u1, u2, n, rfl, hx, ha⟩ := hPC.at hv
    refine ⟨a, _, _, rfl, ⟨_, (N _ (hs _ ha)).1, rfl, n, rfl⟩, ?_⟩
    have hb := hb _ (List.mem_of_getElem? hx)
    simp only at hb
    intro I oI C oC D m₂ h tk d E' hC' hv1 hv2 F N off ne
    (try dsimp only)
    clear ret kF kN
    have N : News h₀ L h ((I, oI) :: (C, oC) :: (D, lst ys) :: (L + 1 + 1, oT) :: (L + 1 + 1 + 1, oM) :: nx) := fun p hp' => N p (by
      simp only [List.mem_cons] at hp' ⊢
      rcases hp' with h | h | h | h | h | h
      · simp [h]
      · simp [h]
      · simp [h]
      · rw [h]; exact .inr (.inr (.inr (hs _ hT)))
      · rw [h]; exact .inr (.inr (.inr (hs _ hM)))
      · simp [h])
    cases mi
    all_goals
      k_steps
      (rename _ ∧ _ ∧ _ ∧ _ => l9); (rename Fr _ _ _ _ => kF); (rename News _ _ _ _ => kN); (try dsimp only)
      first | exact cend_tup kF kN l9 off (mvj_next hs hA hx rfl) | exact cend_tup kF (news_skip2 kN) ⟨l9.1, l9.2.1, l9.2.2.1, l9.2.2.2.2.2⟩ off (mvj_next hs hA hx rfl)
  · rintro D h tk d ys nx F N o1 ⟨hs, hA⟩
    rw [hPC.length, List.take_length] at hA
    exact ret _ _ _ _ _ _ (by simp only [know_pt h1] at F; exact F) N hs hA
set_option maxRecDepth 100000 in
set_option maxHeartbeats 8000000 in
theorem law15 (hst : lawSt 15 = some st) (hsc : lawScope = some sc) (B : Below callerA h₀ [] h₀) (X : (Mine.hd.heap_1 w.params).In h₀) (T : Top Mine.hd.view_1 (looseW Mine.hd.view_1 []) mean mg mb h₀) (F : Fr h₀ L s.heap m) (N : News h₀ L s.heap news) {lc : Addr} {vC : List Value} {k3 : Nat} {oM : Obj} {fl : Bool} {cc : List (Int × Int)} (h1 : m (Str.ofString "stretches") = some (.ref lc))
    (hC : (lc, W.listOf vC.toArray k3) ∈ news) (hPC : PairsL news vC cc) (hM : (L + 1 + 1 + 1 + 1, oM) ∈ news) (dM : oM.data = .cell (some (.bool fl)))
    (hb : ∀ c ∈ cc, 1 ≤ c.2 ∧ c.2 ≤ 2) (hlen : cc.length ≤ 100)
    (ret : ∀ h' tk' d' D ys nx, Fr h₀ L h' (fun y => if y = (Str.ofString "far_stretches") then some (.ref D) else m y) → News h₀ L h' ((D, lst ys) :: nx) → (∀ p ∈ news, p ∈ nx) → PairsL nx ys (cc.map (moveS fl)) → Q .next { s with heap := h', toks := tk', drawn := d' }) :
    wpAny (model PySem.Challenge.rw_pg0115_01.row.prog w) (callerA.deeper (envOfC (Str.ofString "law") sc L fa cd)) (exec st (envOfC (Str.ofString "law") sc L fa cd)) Q E s := by
  revert X
  k_fill
  intro X
  cases hst
  cases hsc
  (try dsimp only)
  have F := fr_know1 F h1
  k_dflt (refine comp2_assign (h₀ := h₀) (m := fun y => if y = (Str.ofString "stretches") then some (.ref lc) else m y) rfl (by with_unfolding_all rfl) (by with_unfolding_all rfl) (by decide) (by rfl) (by decide) (by rfl) (by rfl) (by decide) rfl (by rfl) (by rfl) ?_)
  k_steps
  (rename Fr _ _ _ _ => kF); (rename News _ _ _ _ => kN)
  refine ⟨lc, vC, news, MvJ (moveS fl) cc news, rfl, kF, kN, ⟨fun _ h => h, .nil⟩, by rw [sizeLine_eq, hPC.length]; omega, ⟨?_, ?_⟩, ?_⟩
  · rintro i ys nx h ⟨hs, _⟩ F N
    exact ⟨_, (N _ (hs _ hC)).1, rfl, _, rfl⟩
  · rintro i ys nx h v ⟨hs, hA⟩ hv F N
    obtain ⟨a, x, y, u1, u2, n, rfl, hx, ha⟩ := hPC.at hv
    refine ⟨a, _, _, rfl, ⟨_, (N _ (hs _ ha)).1, rfl, n, rfl⟩, ?_⟩
    have hb := hb _ (List.mem_of_getElem? hx)
    simp only at hb
    intro I oI C oC D m₂ h tk d E' hC' hv1 hv2 F N off ne
    (try dsimp only)
    clear ret kF kN
    have N : News h₀ L h ((I, oI) :: (C, oC) :: (D, lst ys) :: (L + 1 + 1 + 1 + 1, oM) :: nx) := fun p hp' => N p (by
      simp only [List.mem_cons] at hp' ⊢
      rcases hp' with h | h | h | h | h
      · simp [h]
      · simp [h]
      · simp [h]
      · rw [h]; exact .inr (.inr (.inr (hs _ hM)))
      · simp [h])
    cases fl
    all_goals
      k_steps
      (rename _ ∧ _ ∧ _ ∧ _ => l9); (rename Fr _ _ _ _ => kF); (rename News _ _ _ _ => kN); (try dsimp only)
      first | exact cend_tup kF kN l9 off (mvj_next hs hA hx rfl) | exact cend_tup kF (news_skip1 kN) ⟨l9.1, l9.2.1, l9.2.2.1, l9.2.2.2.2⟩ off (mvj_next hs hA hx rfl)
  · rintro D h tk d ys nx F N o1 ⟨hs, hA⟩
    rw [hPC.length, List.take_length] at hA
    exact ret _ _ _ _ _ _ (by simp only [know_pt h1] at F; exact F) N hs hA
end
end Mine
open PySem PySem.W PyProof.Rows
set_option Elab.async false
namespace Mine
theorem w_clear_An : True := by
  w_top off
  k_with_none
  k_with "callWith" => (k_here; (with_reducible show wpAny _ _ (callWith _ (Value.builtin _) (_ :: _) (backTo _ (starEach (_ :: _) _)) []) _ _ _); (with_reducible refine' PyProof.Rows.callWith_method1 ?_ ?he ?hp); (case he => k_dflt rfl); (case hp => k_dflt rfl))
  k_with "callWith" => (k_here; (with_reducible show wpAny _ _ (callWith _ (Value.builtin _) [] (backTo _ (starEach (_ :: _) _)) []) _ _ _); (with_reducible refine' PyProof.Rows.callWith_builtin1 ?_ ?he ?hp); (case he => k_dflt rfl); (case hp => k_dflt rfl))
  trivial
open PyProof.Rows.LCg
noncomputable def anDef : Option (List Stmt × Scope) := findDef (Str.ofString "_law_answers") PySem.Challenge.pw_pg0115_01.main.body
noncomputable def anScope : Option Scope := match anDef with | some (_, sc) => some sc | none => none
noncomputable def anSt (i : Nat) : Option Stmt := anDef.bind fun d => d.1[i]?
noncomputable abbrev anName : Str := Str.ofString "_law_answers"
noncomputable def modX (c : Int × Int) : Str := modT c.2.toNat c.1
noncomputable def fldX (c : Int × Int) : Str := fldT c.2.toNat c.1
noncomputable def AnJ (f : Int × Int → Str) (xs : List (Int × Int)) (news : List (Addr × Obj)) (i : Nat) (ys : List Value) (nx : List (Addr × Obj)) : Prop := nx = news ∧ StrsAre ys ((xs.take i).map f)
theorem strs_app : ∀ {vs : List Value} {xs : List Str}, StrsAre vs xs → ∀ {y : Str} {t : Tok}, StrsAre (vs ++ [.str y t]) (xs ++ [y])
  | _, _, .nil, y, t => .cons y t .nil
  | _, _, .cons x u hr, y, t => .cons x u (strs_app hr)
theorem strs_take {α : Type} {f : α → Str} {xs : List α} {i : Nat} {x : α} {ys : List Value} {y : Str} {t : Tok} (hS : StrsAre ys ((xs.take i).map f)) (hx : xs[i]? = some x) (e : f x = y) : StrsAre (ys ++ [.str y t]) ((xs.take (i + 1)).map f) := by
  subst e
  rw [List.take_add_one, hx, List.map_append]
  exact strs_app hS
theorem off1_mem {D : Addr} : ∀ (l : List (Addr × Obj)), Off1 D l → ∀ p ∈ l, p.1 ≠ D
  | [], _, _, hp => nomatch hp
  | q :: r, h, p, hp => by
    rcases List.mem_cons.mp hp with e | hp
    · rw [e]; exact h.1
    · exact off1_mem r h.2 p hp
theorem w_words_An_1 : True := by
  k_with "call ref" => (k_here; k_dflt (refine' Ctr.useS (c_mod3 _ _ _ _) ?k1 ?k2 ?k3 ?k4 ?k5 ?kK ?kp ?kd ?ku ?_; (case k1 => k_asm); (case k2 => k_asm); (case k3 => k_asm); (case k4 => k_asm); (case k5 => k_asm); (case kK => exact rfl); (case kp => (exact True.intro)); (case kd => ktr_room); (case ku => ktr_units); k_whole; intro a9 h9 tk9 F9 N9; (try dsimp only)))
  k_with "call ref" => (k_here; k_dflt (refine' Ctr.useS (c_mod2 _ _ _ _) ?k1 ?k2 ?k3 ?k4 ?k5 ?kK ?kp ?kd ?ku ?_; (case k1 => k_asm); (case k2 => k_asm); (case k3 => k_asm); (case k4 => k_asm); (case k5 => k_asm); (case kK => exact rfl); (case kp => (exact True.intro)); (case kd => ktr_room); (case ku => ktr_units); k_whole; intro a9 h9 tk9 F9 N9; (try dsimp only)))
  k_with "call ref" => (k_here; k_dflt (refine' Ctr.useS (c_mod1 _ _ _ _) ?k1 ?k2 ?k3 ?k4 ?k5 ?kK ?kp ?kd ?ku ?_; (case k1 => k_asm); (case k2 => k_asm); (case k3 => k_asm); (case k4 => k_asm); (case k5 => k_asm); (case kK => exact rfl); (case kp => (exact True.intro)); (case kd => ktr_room); (case ku => ktr_units); k_whole; intro a9 h9 tk9 F9 N9; (try dsimp only)))
  k_with "call ref" => (k_here; k_dflt (refine' Ctr.useS (c_fld2 _ _ _ _) ?k1 ?k2 ?k3 ?k4 ?k5 ?kK ?kp ?kd ?ku ?_; (case k1 => k_asm); (case k2 => k_asm); (case k3 => k_asm); (case k4 => k_asm); (case k5 => k_asm); (case kK => exact rfl); (case kp => (exact True.intro)); (case kd => ktr_room); (case ku => ktr_units); k_whole; intro a9 h9 tk9 F9 N9; (try dsimp only)))
  k_with "call ref" => (k_here; k_dflt (refine' Ctr.useS (c_fld1 _ _ _ _) ?k1 ?k2 ?k3 ?k4 ?k5 ?kK ?kp ?kd ?ku ?_; (case k1 => k_asm); (case k2 => k_asm); (case k3 => k_asm); (case k4 => k_asm); (case k5 => k_asm); (case kK => exact rfl); (case kp => (exact True.intro)); (case kd => ktr_room); (case ku => ktr_units); k_whole; intro a9 h9 tk9 F9 N9; (try dsimp only)))
  trivial
section
variable {w : World} {mean : ExcName → Option Value} {mg mb : Str → Option Value} {h₀ base : Heap} {L fa L0 a0 : Addr} {cd ccd0 : Value} {A₀ : Around} {outer outer0 : List Env} {dp un : Nat} {gd : Option (List Code)} {cn0 : Str} {cs0 : Scope} {cl0 : List (Str × Addr)} {m : Str → Option Value} {news : List (Addr × Obj)} {s : Shared} {Q : Flow → Shared → Prop} {E : Value → Shared → Prop} {st : Stmt} {sc : Scope}
set_option maxRecDepth 100000 in
set_option maxHeartbeats 8000000 in
theorem an0 (hst : anSt 0 = some st) (hsc : anScope = some sc) (hd : dp + 12 < recursionLimit) (hu : un + 8 * 12 < cLine) (B : Below (ktrTop dp un gd cn0 cs0 L0 a0 ccd0 cl0 outer0) base (envX cn0 cs0 L0 a0 ccd0 cl0 :: outer0) h₀) (hk0 : cs0.kind = .function) (hks : sc.kind = .function) (X : (Mine.hd.heap_1 w.params).In h₀) (T : Top Mine.hd.view_1 (looseW Mine.hd.view_1 []) mean mg mb h₀) (F : Fr h₀ L s.heap m) (N : News h₀ L s.heap news) {lc : Addr} {vs : List Value} {xs : List (Int × Int)} (hp : PairsIn h₀ vs xs) (hl : h₀.IsList lc vs.toArray) (hb : ∀ c ∈ xs, 1 ≤ c.2 ∧ c.2 ≤ 3) (hlen : xs.length ≤ 100) (h1 : m (Str.ofString "classes") = some (.ref lc))
    (ret : ∀ h' tk' d' D ys, Fr h₀ L h' (fun y => if y = (Str.ofString "taken") then some (.ref D) else m y) → News h₀ L h' ((D, lst ys) :: news) → (∀ p ∈ news, p.1 ≠ D) → StrsAre ys (xs.map modX) → Q .next { s with heap := h', toks := tk', drawn := d' }) :
    wpAny (model PySem.Challenge.rw_pg0115_01.row.prog w) ((ktrTop dp un gd cn0 cs0 L0 a0 ccd0 cl0 outer0).deeper (envOfC anName sc L fa cd)) (exec st (envOfC anName sc L fa cd)) Q E s := by
  revert X
  k_fill
  intro X
  cases hst
  cases hsc
  (try dsimp only)
  have F := fr_know1 F h1
  k_dflt (refine comp2_assign (h₀ := h₀) (m := fun y => if y = (Str.ofString "classes") then some (.ref lc) else m y) rfl (by with_unfolding_all rfl) (by with_unfolding_all rfl) (by decide) (by rfl) (by decide) (by rfl) (by rfl) (by decide) rfl (by rfl) (by rfl) ?_)
  k_steps
  refine ⟨lc, vs, news, AnJ modX xs news, rfl, F, N, ⟨rfl, .nil⟩, by rw [sizeLine_eq, hp.length]; omega, ⟨?_, ?_⟩, ?_⟩
  · rintro i ys nx h _ F _
    obtain ⟨o, ho, r⟩ := hl
    exact ⟨o, F.keep _ _ ho, r⟩
  · rintro i ys nx h v ⟨rfl, hS⟩ hv F N
    obtain ⟨a, x, y, t1, t2, n, rfl, hx, ha⟩ := hp.at hv
    refine ⟨a, _, _, rfl, ⟨_, F.keep _ _ ha, rfl, n, rfl⟩, ?_⟩
    have hb := hb _ (List.mem_of_getElem? hx)
    simp only at hb
    intro I oI C oC D m₂ h tk d E' hC hv1 hv2 F N off ne
    (try simp only [Off3, and_true] at off)
    (try dsimp only)
    rcases (show y = 1 ∨ y = 2 ∨ y = 3 by omega) with rfl | rfl | rfl
    · k_steps
      (rename Fr _ _ _ _ => kF); (rename News _ _ _ _ => kN); (try dsimp only)
      exact ⟨_, _, _, nx, rfl, kF, kN, off, rfl, strs_take hS hx rfl⟩
    · k_steps
      (rename Fr _ _ _ _ => kF); (rename News _ _ _ _ => kN); (try dsimp only)
      exact ⟨_, _, _, nx, rfl, kF, kN, off, rfl, strs_take hS hx rfl⟩
    · k_steps
      (rename Fr _ _ _ _ => kF); (rename News _ _ _ _ => kN); (try dsimp only)
      exact ⟨_, _, _, nx, rfl, kF, kN, off, rfl, strs_take hS hx rfl⟩
  · rintro D h tk d ys nx' F1 N1 o1 ⟨rfl, hS⟩
    rw [hp.length, List.take_length] at hS
    exact ret h tk d D ys (by simp only [know_pt h1] at F1; exact F1) N1 (off1_mem _ o1) hS
set_option maxRecDepth 100000 in
set_option maxHeartbeats 8000000 in
theorem an1 (hst : anSt 1 = some st) (hsc : anScope = some sc) (hd : dp + 12 < recursionLimit) (hu : un + 8 * 12 < cLine) (B : Below (ktrTop dp un gd cn0 cs0 L0 a0 ccd0 cl0 outer0) base (envX cn0 cs0 L0 a0 ccd0 cl0 :: outer0) h₀) (hk0 : cs0.kind = .function) (hks : sc.kind = .function) (X : (Mine.hd.heap_1 w.params).In h₀) (T : Top Mine.hd.view_1 (looseW Mine.hd.view_1 []) mean mg mb h₀) (F : Fr h₀ L s.heap m) (N : News h₀ L s.heap news) {lc : Addr} {vs : List Value} {xs : List (Int × Int)} (hp : PairsIn h₀ vs xs) (hl : h₀.IsList lc vs.toArray) (hb : ∀ c ∈ xs, 1 ≤ c.2 ∧ c.2 ≤ 2) (hlen : xs.length ≤ 100) (h1 : m (Str.ofString "stretches") = some (.ref lc))
    (ret : ∀ h' tk' d' D ys, Fr h₀ L h' (fun y => if y = (Str.ofString "folders") then some (.ref D) else m y) → News h₀ L h' ((D, lst ys) :: news) → (∀ p ∈ news, p.1 ≠ D) → StrsAre ys (xs.map fldX) → Q .next { s with heap := h', toks := tk', drawn := d' }) :
    wpAny (model PySem.Challenge.rw_pg0115_01.row.prog w) ((ktrTop dp un gd cn0 cs0 L0 a0 ccd0 cl0 outer0).deeper (envOfC anName sc L fa cd)) (exec st (envOfC anName sc L fa cd)) Q E s := by
  revert X
  k_fill
  intro X
  cases hst
  cases hsc
  (try dsimp only)
  have F := fr_know1 F h1
  k_dflt (refine comp2_assign (h₀ := h₀) (m := fun y => if y = (Str.ofString "stretches") then some (.ref lc) else m y) rfl (by with_unfolding_all rfl) (by with_unfolding_all rfl) (by decide) (by rfl) (by decide) (by rfl) (by rfl) (by decide) rfl (by rfl) (by rfl) ?_)
  k_steps
  refine ⟨lc, vs, news, AnJ fldX xs news, rfl, F, N, ⟨rfl, .nil⟩, by rw [sizeLine_eq, hp.length]; omega, ⟨?_, ?_⟩, ?_⟩
  · rintro i ys nx h _ F _
    obtain ⟨o, ho, r⟩ := hl
    exact ⟨o, F.keep _ _ ho, r⟩
  · rintro i ys nx h v ⟨rfl, hS⟩ hv F N
    obtain ⟨a, x, y, t1, t2, n, rfl, hx, ha⟩ := hp.at hv
    refine ⟨a, _, _, rfl, ⟨_, F.keep _ _ ha, rfl, n, rfl⟩, ?_⟩
    have hb := hb _ (List.mem_of_getElem? hx)
    simp only at hb
    intro I oI C oC D m₂ h tk d E' hC hv1 hv2 F N off ne
    (try simp only [Off3, and_true] at off)
    (try dsimp only)
    rcases (show y = 1 ∨ y = 2 by omega) with rfl | rfl
    · k_steps
      (rename Fr _ _ _ _ => kF); (rename News _ _ _ _ => kN); (try dsimp only)
      exact ⟨_, _, _, nx, rfl, kF, kN, off, rfl, strs_take hS hx rfl⟩
    · k_steps
      (rename Fr _ _ _ _ => kF); (rename News _ _ _ _ => kN); (try dsimp only)
      exact ⟨_, _, _, nx, rfl, kF, kN, off, rfl, strs_take hS hx rfl⟩
  · rintro D h tk d ys nx' F1 N1 o1 ⟨rfl, hS⟩
    rw [hp.length, List.take_length] at hS
    exact ret h tk d D ys (by simp only [know_pt h1] at F1; exact F1) N1 (off1_mem _ o1) hS
end
end Mine
open PySem PySem.W PyProof.Rows
set_option Elab.async false
namespace Mine
/-! sets of texts -/
theorem insAt_plain {α : Type} (t : SetTable) (j : Nat) : (t.put j).1.plain = t.plain := rfl
theorem orSt_plain {t : SetTable} {n : Nat} (h : t.plain = false) : (t.orStandIn n).plain = false := by
  unfold SetTable.orStandIn
  split
  · exact h
  · rfl
theorem layNew_plain {t : SetTable} {es : Array (Int × Value)} {h : Int} {x : Value} : t.plain = false → (layNew t es h x).2.1.plain = false := by
  intro hp
  unfold layNew
  split
  · exact orSt_plain hp
  · rfl
theorem relaid_plain {t t' : SetTable} {hs : Array Int} {wd : Nat} {od : Array Nat} (h : t.relaid hs wd = some (t', od)) : t'.plain = t.plain := by
  unfold SetTable.relaid SetTable.laid at h
  cases hl : SetTable.layClean (SetTable.sizeAbove wd - 1) hs with
  | none => rw [hl] at h; cases h
  | some ow =>
    rw [hl] at h
    simp only [bind, Option.bind, pure] at h
    injection h with h
    injection h with h _
    rw [← h]
theorem relay_plain {t : SetTable} {es : Array (Int × Value)} {wd : Nat} (hp : t.plain = false) : (relayAll t es wd).2.1.plain = false := by
  unfold relayAll
  split
  · rename_i t' od h
    dsimp only
    split
    · show t'.plain = false
      rw [relaid_plain h, hp]
    · rfl
  · rfl
section
variable {prog : Program} {w : World} {A : Around} {E : Value → Shared → Prop} {s : Shared}
/-- a set that holds these texts, its order drawn -/
noncomputable def SetS (prog : Program) (w : World) (o : Obj) (xs : List Str) : Prop :=
  o.ExactSet ∧ ∃ es ep t, o.data = .set es ep t ∧ ElemsOf (strKind prog w) es.toList ∧ (∀ k, k ∈ xs ↔ ∃ e ∈ es.toList, Value.isStrOf k e.2 = true) ∧ t.fits es.size = true ∧ es.size ≤ xs.length ∧ (0 < es.size → t.plain = false)
theorem SetS.fresh (led : Bool) : SetS prog w { cls := .type "set", dict := none, data := .set #[] 0 (.fresh 0 0 led) } [] :=
  ⟨⟨rfl, rfl, rfl⟩, #[], 0, _, rfl, fun e he => by simp at he, fun k => by simp, rfl, Nat.le_refl _, fun h => absurd h (by simp)⟩
theorem setS_store {a : Addr} {o : Obj} {es es' : Array (Int × Value)} {ep : Nat} {t t' : SetTable} {xs' : List Str} {Q : Unit → Shared → Prop} (ho : s.heap.get? a = some o) (hex : o.ExactSet) (hd : o.data = .set es ep t)
    (hel : ElemsOf (strKind prog w) es'.toList) (hm : ∀ k, k ∈ xs' ↔ ∃ e ∈ es'.toList, Value.isStrOf k e.2 = true) (hf : t'.fits es'.size = true) (hz : es'.size ≤ xs'.length) (hp : t'.plain = false) (hb : es'.size < scanBound)
    (h : ∀ h' o' ep', Heap.SameBut a s.heap h' → h'.get? a = some o' → o'.data = .set es' ep' t' → SetS prog w o' xs' → Q () { s with heap := h' }) : wpAny (model prog w) A (storeSet a es' t') Q E s := by
  refine wpAny_storeSet_of ho hd ?_ (fits_of_scanBound hb)
  have hg : (s.heap.update a (Obj.putSet es' t')).get? a = some { o with data := .set es' (ep + 1) t' } := by
    have := Heap.get?_update_self (Obj.putSet es' t') ho (by rw [putSet_of es' t' hd]; rfl)
    rw [putSet_of es' t' hd] at this; exact this
  exact h _ _ (ep + 1) (Heap.SameBut.update s.heap a _) hg rfl ⟨hex, es', ep + 1, t', rfl, hel, hm, hf, hz, fun _ => hp⟩
theorem mem_new {l l' : List (Int × Value)} {xs : List Str} {x : Str} {tk : Tok} (hm : ∀ k, k ∈ xs ↔ ∃ e ∈ l, Value.isStrOf k e.2 = true) (p : List.Perm l' (l ++ [(hashStr w x, .str x tk)])) (k : Str) : k ∈ xs ++ [x] ↔ ∃ e ∈ l', Value.isStrOf k e.2 = true := by
  rw [List.mem_append, hm k, List.mem_singleton]
  constructor
  · rintro (⟨e, he, q⟩ | rfl)
    · exact ⟨e, p.mem_iff.mpr (List.mem_append_left _ he), q⟩
    · exact ⟨_, p.mem_iff.mpr (List.mem_append_right _ (.head _)), by simp [Value.isStrOf]⟩
  · rintro ⟨e, he, q⟩
    rcases List.mem_append.mp (p.mem_iff.mp he) with he | he
    · exact .inl ⟨e, he, q⟩
    · rw [List.mem_singleton.mp he] at q
      obtain ⟨u, hu⟩ := Value.isStrOf_shape q
      injection hu with hu
      exact .inr hu.symm
theorem setS_add {a : Addr} {o : Obj} {xs : List Str} {x : Str} {tk : Tok} {Q : Bool → Shared → Prop} (ho : s.heap.get? a = some o) (hS : SetS prog w o xs) (hr : xs.length + 1 < scanBound)
    (h : ∀ b h' o', Heap.SameBut a s.heap h' → h'.get? a = some o' → SetS prog w o' (xs ++ [x]) → Q b { s with heap := h' }) : wpAny (model prog w) A (setAddHashed a (.str x tk) (hashStr w x)) Q E s := by
  obtain ⟨hex, es, ep, t, hd, hel, hmem, hf, hz, hpl⟩ := id hS
  have hkey : (strKind prog w).is x (.str x tk) = true := strKind_is _ _ _ _
  have hb : es.size < scanBound := by omega
  have hgw : ∀ (b : Bool) {s₁ : Shared} {Q' : Unit → Shared → Prop}, Q' () s₁ → wpAny (model prog w) A (match b with | true => rule "set.scan.the-table-gave-way" | false => pure ()) Q' E s₁ :=
    fun b s₁ Q' hq => by cases b <;> first | exact wpAny_pure hq | exact wpAny_rule hq
  unfold setAddHashed setAddHashedIn
  refine wpAny_holding (wpAny_bind (wpAny_setState_of ho hd hf ?_))
  dsimp only
  rw [byScan_of (knd := strKind prog w) rfl hb hel]
  simp only [↓reduceIte]
  unfold setAddByScan
  refine wpAny_bind (wpAny_bind (wpAny_rule ?_))
  refine wpAny_bind (wpAny_setScan_of (knd := strKind prog w) hkey ho hd hf hel ?_)
  cases hidx : List.findIdx? (fun e => (strKind prog w).is x e.2) es.toList with
  | some j =>
    dsimp only
    obtain ⟨hj, hpj, _⟩ := List.findIdx?_eq_some_iff_getElem.mp hidx
    have hx : x ∈ xs := (hmem x).mpr ⟨es.toList[j], List.getElem_mem hj, hpj⟩
    refine wpAny_pure (wpAny_pure ?_)
    refine h _ s.heap o (Heap.SameBut.refl a s.heap) ho ⟨hex, es, ep, t, hd, hel, fun k => ?_, hf, by rw [List.length_append]; omega, hpl⟩
    rw [← hmem k, List.mem_append, List.mem_singleton]
    exact ⟨fun q => q.elim id fun e => e ▸ hx, .inl⟩
  | none =>
    dsimp only
    have hperm := layNew_perm t es (hashStr w x) (.str x tk)
    have hfits := layNew_fits t es (hashStr w x) (.str x tk)
    have hplain := layNew_plain (t := t) (es := es) (h := hashStr w x) (x := .str x tk)
    generalize layNew t es (hashStr w x) (.str x tk) = R at hperm hfits hplain ⊢
    obtain ⟨es1, t1, wd, gv⟩ := R
    dsimp only at hperm hfits hplain ⊢
    rw [Array.toList_push] at hperm
    have hel1 : ElemsOf (strKind prog w) es1.toList := (hel.push hkey rfl).perm hperm
    have hm1 := mem_new (w := w) (tk := tk) hmem hperm
    have hsz : es1.size = es.size + 1 := by rw [← Array.length_toList, hperm.length_eq, List.length_append, Array.length_toList]; rfl
    have hz1 : es1.size ≤ (xs ++ [x]).length := by rw [List.length_append, hsz]; simp; omega
    have hb1 : es1.size < scanBound := by rw [hsz]; omega
    refine wpAny_bind (hgw _ ?_)
    -- from here on the table is not plain
    have tail : ∀ (t2 : SetTable) (R : Option Bool → Shared → Prop), t2.plain = false → t2.fits es1.size = true → (∀ h' o', Heap.SameBut a s.heap h' → h'.get? a = some o' → SetS prog w o' (xs ++ [x]) → R (some true) { s with heap := h' }) → wpAny (model prog w) A (do
        storeSet a es1 t2
        if (!wd && t2.tooFull) = true then do
            (match (relayAll t2 es1 (SetTable.grown es1.size)).2.2 with | true => rule "set.scan.the-table-gave-way" | false => pure ())
            storeSet a (relayAll t2 es1 (SetTable.grown es1.size)).1 (relayAll t2 es1 (SetTable.grown es1.size)).2.1
            pure (some true)
          else pure (some true)) R E s := by
      intro t2 R hp2 hf2 h
      refine wpAny_bind (setS_store ho hex hd hel1 hm1 hf2 hz1 hp2 hb1 fun h1 o1 ep1 hs1 ho1 hd1 hS1 => ?_)
      split
      · have hp := relayAll_perm t2 es1 (SetTable.grown es1.size)
        have hfr := relayAll_fits t2 es1 (SetTable.grown es1.size)
        have hpr := relay_plain (es := es1) (wd := SetTable.grown es1.size) hp2
        generalize relayAll t2 es1 (SetTable.grown es1.size) = R at hp hfr hpr ⊢
        obtain ⟨es2, t3, gv2⟩ := R
        dsimp only at hp hfr hpr ⊢
        have hsz2 : es2.size = es1.size := by rw [← Array.length_toList, hp.length_eq, Array.length_toList]
        refine wpAny_bind (hgw _ ?_)
        refine wpAny_bind (setS_store (s := { s with heap := h1 }) ho1 hS1.1 hd1 (hel1.perm hp) (fun k => (hm1 k).trans ⟨fun ⟨e, he, q⟩ => ⟨e, hp.mem_iff.mpr he, q⟩, fun ⟨e, he, q⟩ => ⟨e, hp.mem_iff.mp he, q⟩⟩) hfr (by rw [hsz2]; exact hz1) hpr (by rw [hsz2]; exact hb1) fun h2 o2 ep2 hs2 ho2 _ hS2 => ?_)
        exact wpAny_pure (h h2 o2 (hs1.trans hs2) ho2 hS2)
      · exact wpAny_pure (h h1 o1 hs1 ho1 hS1)
    split
    · refine wpAny_bind ?_
      rw [hashByValue_scannable 8 (x := .str x tk) rfl]
      refine wpAny_pure ?_
      refine tail { t1 with plain := false } _ rfl (SetTable.fits_plain_off hfits) fun h' o' hs ho' hS' => ?_
      exact wpAny_pure (h _ h' o' hs ho' hS')
    · rename_i hpl1
      refine wpAny_bind (wpAny_pure ?_)
      refine tail t1 _ (by simpa using hpl1) hfits fun h' o' hs ho' hS' => ?_
      exact wpAny_pure (h _ h' o' hs ho' hS')

theorem strs_at : ∀ {vs : List Value} {xs : List Str}, StrsAre vs xs → ∀ {i : Nat} {v : Value}, vs[i]? = some v → ∃ x t, v = .str x t ∧ xs[i]? = some x
  | _, _, .nil, i, v, h => by simp at h
  | _, _, .cons x t hr, 0, v, h => by
    simp only [List.getElem?_cons_zero, Option.some.injEq] at h
    exact ⟨x, t, h.symm, rfl⟩
  | _, _, .cons x t hr, i + 1, v, h => by
    simp only [List.getElem?_cons_succ] at h ⊢
    exact strs_at hr h
theorem strs_len : ∀ {vs : List Value} {xs : List Str}, StrsAre vs xs → vs.length = xs.length
  | _, _, .nil => rfl
  | _, _, .cons _ _ hr => congrArg (· + 1) (strs_len hr)
theorem code_update {R : Result → Shared → Prop} {l I S : Addr} {vs : List Value} {xs : List Str} (hh : A.in1.handled = none) (hv : StrsAre vs xs) (hlS : l ≠ S) (hIS : I ≠ S) (hlI : l ≠ I) (hb : xs.length + 1 < scanBound) :
    ∀ (k i : Nat) (s : Shared) (o : Obj), vs.length - i = k → i ≤ vs.length → s.heap.IsListIter I l i → s.heap.IsList l vs.toArray → s.heap.get? S = some o → SetS prog w o (xs.take i) →
      (∀ h' tk o', (∀ b ob, b ≠ S → b ≠ I → s.heap.get? b = some ob → h'.get? b = some ob) → h'.get? S = some o' → SetS prog w o' xs → R (.ok (.ret .none)) { s with heap := h', toks := tk }) →
      codeAny (model prog w) A (.builtin "set.update.loop" ⟨[.ref S, .ref I], []⟩) R s := by
  have hlen := strs_len hv
  intro k
  induction k with
  | zero =>
    intro i s o hk hi hI hl ho hS hR
    have hin : i = vs.length := by omega
    subst hin
    refine codeAny_builtin F.entry_set_update_loop ?_
    rw [Around.under_plainId F.plain_set_update_loop _]
    show wpAny _ A.in1 (pyNext (.ref I) >>= _) _ _ s
    refine wpAny_bind (wpAny_pyNext_list_end hh hI hl (by simp) fun h' he => ?_)
    show wpAny _ A.in1 (ret Value.none) _ _ _
    refine wpAny_pure (hR h' s.toks o (fun b ob _ hbI e => he b ob hbI e) (he S o (Ne.symm hIS) ho) ?_)
    rw [hlen, List.take_length] at hS
    exact hS
  | succ k ih =>
    intro i s o hk hi hI hl ho hS hR
    have hlt : i < vs.length := by omega
    refine codeAny_builtin F.entry_set_update_loop ?_
    rw [Around.under_plainId F.plain_set_update_loop _]
    show wpAny _ A.in1 (pyNext (.ref I) >>= _) _ _ s
    obtain ⟨x, t, hx, hxs⟩ := strs_at hv (List.getElem?_eq_getElem hlt)
    refine wpAny_bind (wpAny_pyNext_list_item hI hl (x := .str x t) (by rw [← hx]; simp [hlt]) fun h' hI' hs => ?_)
    have ho' : h'.get? S = some o := hs.extBut S o (Ne.symm hIS) ho
    show wpAny _ A.in1 (holding [Value.str x t] (setAdd S (.str x t)) >>= _) _ _ _
    refine wpAny_bind (wpAny_holding ?_)
    unfold setAdd
    refine wpAny_holding ?_
    refine wpAny_bind (wpAny_pyHash_str ?_)
    have htl : (xs.take i).length ≤ xs.length := by rw [List.length_take]; omega
    refine setS_add (s := { { s with heap := h' } with toks := s.toks + 1 }) ho' hS (by omega) fun b h2 o2 hs2 ho2 hS2 => ?_
    rw [show xs.take i ++ [x] = xs.take (i + 1) from by rw [List.take_add_one, hxs]; rfl] at hS2
    refine wpAny_pure ⟨plainId_quiet F.plain_set_update_loop _, ih (i + 1) _ o2 (by omega) hlt ?_ ?_ ho2 hS2 fun h3 tk o3 hk3 ho3 hS3 => ?_⟩
    · exact hI'.at fun o e => hs2.extBut _ _ hIS e
    · exact (hl.extBut hs.extBut hlI).extBut hs2.extBut hlS
    · exact hR h3 tk o3 (fun c oc hcS hcI e => hk3 c oc hcS hcI (hs2.extBut c oc hcS (hs.extBut c oc hcI e))) ho3 hS3
end
end Mine
open PySem PySem.W PyProof.Rows
set_option Elab.async false
namespace Mine
section
variable {prog : Program} {w : World} {A : Around} {E : Value → Shared → Prop} {s : Shared}
noncomputable abbrev setO (led : Bool) : Obj := { cls := .type "set", dict := none, data := .set #[] 0 (.fresh 0 0 led) }
/-- what the filling does: the loop over the list, seen from set.__init__ -/
theorem fill_set {A' : Around} {l : Addr} {vs : List Value} {xs : List Str} {led : Bool} {Q : Unit → Shared → Prop} {h0 : Heap} {sz : Addr} (hsz : sz = h0.objs.size) (hh : A'.handled = none) (hl : h0.IsList l vs.toArray) (hv : StrsAre vs xs) (hb : xs.length + 1 < scanBound)
    (h : ∀ h' tk o, (∀ b ob, h0.get? b = some ob → h'.get? b = some ob) → h'.get? sz = some o → SetS prog w o xs → Q () { s with heap := h', toks := tk }) :
    wpAny (model prog w) A' (pyIter (.ref l)) (fun it s' => wpAny (model prog w) A' (do let _ ← runValue (.builtin "set.update.loop" ⟨[.ref sz, it], []⟩); pure ()) Q E s') E { s with heap := h0.push (setO led) } := by
  subst hsz
  have hl1 : (h0.push (setO led)).IsList l vs.toArray := hl.push _
  have hlS : l < h0.objs.size := by obtain ⟨_, e, _⟩ := hl; exact Heap.lt_size e
  refine wpAny_pyIter_list hl1 (wpAny_bind ?_)
  have hsz1 : (h0.push (setO led)).objs.size = h0.objs.size + 1 := Heap.size_push ..
  have hIS : (h0.push (setO led)).objs.size ≠ h0.objs.size := by rw [hsz1]; exact Nat.succ_ne_self _
  have hlI : l ≠ (h0.push (setO led)).objs.size := by rw [hsz1]; exact Nat.ne_of_lt (Nat.lt_succ_of_lt hlS)
  refine wpAny_runValue (code_update (A := A') (o := setO led) (by rw [← hh]) hv (Nat.ne_of_lt hlS) hIS hlI hb (vs.length - 0) 0 _ rfl (Nat.zero_le _) ⟨_, Heap.get?_push_size _ rfl, rfl, rfl⟩ (hl1.push _) (Heap.get?_push_of_some _ (Heap.get?_push_size _ rfl)) ?_ ?_)
  · rw [List.take_zero]; exact SetS.fresh led
  · intro h' tk o' hk ho' hS'
    refine wpAny_pure (h h' tk o' (fun b ob e => ?_) ho' hS')
    have hbl := Heap.lt_size e
    exact hk b ob (Nat.ne_of_lt hbl) (by rw [hsz1]; exact Nat.ne_of_lt (Nat.lt_succ_of_lt hbl)) (Heap.get?_push_of_some _ (Heap.get?_push_of_some _ e))

set_option maxRecDepth 100000 in
set_option maxHeartbeats 3200000 in
theorem call_set_strs {l : Addr} {vs : List Value} {xs : List Str} {Q : Value → Shared → Prop} (hh : A.handled = none) (hl : s.heap.IsList l vs.toArray) (hv : StrsAre vs xs) (hb : xs.length + 1 < scanBound)
    (h : ∀ h' tk o, (∀ b ob, s.heap.get? b = some ob → h'.get? b = some ob) → h'.get? s.heap.objs.size = some o → SetS prog w o xs → Q (.ref s.heap.objs.size) { s with heap := h', toks := tk }) :
    wpAny (model prog w) A (call (.type "set") [.ref l]) Q E s := by
  obtain ⟨c, tl, hmro⟩ := F.called_set.mro
  have hmade := F.called_set.made
  have hsub := F.called_set.sub
  refine wpAny_call (codeAny_of_tree ?_)
  show wpAny _ _ (callAny (.type "set") _) _ _ _
  refine wpAny_pure ⟨Code.quiet_builtin _ (by decide +kernel), codeAny_builtin F.entry_type_call ?_⟩
  rw [Around.under_plain (weight_type_call_type "set" [.ref l] []) rfl]
  have h1 := F.called_set.notType
  have h2 := F.called_set.canCreate
  have hct := F.typeCall_set_1 (.ref l)
  repeat (any_goals (first | assumption | wp_step))
  refine codeAny_mono (code_set_new_1 (.ref l) (E := E) (Q₁ := fun obj s₁ => ∃ led : Bool, obj = .ref s.heap.objs.size ∧ s₁ = { s with heap := s.heap.push (setO led) }) fun led => ⟨led, rfl, rfl⟩) fun r s₁ hr => ?_
  cases r with
  | error e => exact hr
  | ok fl =>
    cases fl with
    | ret obj =>
      obtain ⟨led, rfl, rfl⟩ := hr
      have hT : Shared.TypeIs { s with heap := s.heap.push (setO led) } (.ref s.heap.objs.size) "set" := ⟨_, Heap.get?_push_size _ rfl, rfl⟩
      have hli := F.called_set.init.lookup
      have hbi := F.called_set.init.bind (.ref s.heap.objs.size)
      repeat (any_goals (first | assumption | wp_step))
      refine codeAny_mono (codeAny_call_builtin (R := wants (fun r s₂ => r = .none ∧ ∃ h' tk o, s₂ = { s with heap := h', toks := tk } ∧ (∀ b ob, s.heap.get? b = some ob → h'.get? b = some ob) ∧ h'.get? s.heap.objs.size = some o ∧ SetS prog w o xs) E) F.called_set.init.plain F.entry_set_init (check_set_init_1 hT ?_)) fun r₂ s₂ hr₂ => ?_
      · have hl0 := hl
        obtain ⟨ol, hol, hcl, nl, hdl⟩ := hl
        obtain ⟨ocls, odict, odata, oslots⟩ := ol
        simp only at hcl hdl
        subst hcl; subst hdl
        have hol' : (s.heap.push (setO led)).get? l = some { cls := .type "list", dict := odict, data := .seq vs.toArray nl, slots := oslots } := Heap.get?_push_of_some _ hol
        have hsls := F.sub_list_set
        have hslf := F.sub_list_frozenset
        have hne : (Value.type "list" == Value.type "dict") = false := by decide
        unfold Builtin.«set.__init__» noKeywords Builtin.Frozenset.updateFrom
        generalize hPI : pyIter = PI
        repeat (first
          | with_reducible refine wpAny_pure ?_
          | with_reducible refine wpAny_bind ?_
          | ((with_reducible apply wpAny_ite_false); focus (rfl; done))
          | ((with_reducible apply wpAny_ite_true); focus (rfl; done))
          | ((fail_if_success (with_reducible show wpAny _ _ (isSubtype _ _) _ _ _)); (fail_if_success (with_reducible show wpAny _ _ (load _) _ _ _)); (fail_if_success (with_reducible show wpAny _ _ (loadPart _ _) _ _ _)); wp_delta)
          | wp_step)
        subst hPI
        refine fill_set (h0 := s.heap) rfl (by simp [hh]) hl0 hv hb fun h' tk o hk ho hS => ?_
        show wpAny _ _ (ret Value.none) _ _ _
        exact wpAny_pure ⟨rfl, h', tk, o, rfl, hk, ho, hS⟩
      · cases r₂ with
        | error e => exact hr₂
        | ok fl₂ =>
          cases fl₂ with
          | ret r =>
            obtain ⟨rfl, h', tk, o, rfl, hk', ho', hS'⟩ := hr₂
            repeat (any_goals (first | assumption | wp_step))
            exact h _ _ _ hk' ho' hS'
          | _ => exact hr₂.elim
    | _ => exact hr.elim
end
end Mine
open PySem PySem.W PyProof.Rows
set_option Elab.async false
namespace Mine
theorem w_clear_Np : True := by
  w_top off
  k_with_none
  k_with "callWith" => (k_here; (with_reducible show wpAny _ _ (callWith _ (Value.builtin _) (_ :: _) (backTo _ (starEach (_ :: _) _)) []) _ _ _); (with_reducible refine' PyProof.Rows.callWith_method1 ?_ ?he ?hp); (case he => k_dflt rfl); (case hp => k_dflt rfl))
  k_with "callWith" => (k_here; (with_reducible show wpAny _ _ (callWith _ (Value.builtin _) [] (backTo _ (starEach (_ :: _) _)) []) _ _ _); (with_reducible refine' PyProof.Rows.callWith_builtin1 ?_ ?he ?hp); (case he => k_dflt rfl); (case hp => k_dflt rfl))
  trivial
noncomputable def OutT3 (a b c : Str) (tl : List (Addr × Obj)) (r : Value) : Prop := ∃ (D : Addr) (t1 t2 t3 : Tok) (n : Nat), r = .ref D ∧ tl = [(D, tupObj [.str a t1, .str b t2, .str c t3] n)]
set_option maxRecDepth 100000 in
set_option maxHeartbeats 8000000 in
theorem c_split (w : World) {p : Str} (t : Tok) (hl : p.length ≤ 100) (e1 : (Txt.slice p none (some 1) != Str.ofString "/") = false) (e2 : (Txt.slice p (some 1) (some 2) != Str.ofString "/") = true) : Ctr w 42 1 [.str p t] (fun _ => True) (OutT3 (Str.ofString "") (Str.ofString "/") (Txt.slice p (some 1) none)) := by
  unfold Ctr
  k_fill
  intro mean mg mb dp un gd cn cs a ccd cl outer A₀ base h₀ L m s Q E B F X T hk hpre hd hu hret
  refine wpAny_call ?_
  k_dflt (refine' callV (P := fun _ => True) hpre ?k1 ?k2 ?k3 ?k5 ?kA ?kF ?kK ?k6 ?k7 ?k8 ?k9 ?kB ?_ ?c2 ?c3 ?c4 ?c5; (case kA => exact rfl); (case kF => exact rfl); (case kK => assumption); (case k1 => k_asm); (case k2 => k_asm); (case k3 => k_asm); (case k5 => k_asm); (case k6 => k_is); (case k7 => k_is); (case k8 => ktr_room); (case k9 => exact BindsTo.of_eq rfl); (case c5 => decide); (case kB => exact locs rfl); (case c2 => exact rfl); (case c3 => exact rfl); (case c4 => exact rfl); k_whole)
  intro g' L' h' hpre' hst' F' N' B' X' T'
  clear B F X T hpre
  (try dsimp only)
  (try k_fold)
  k_steps
  all_goals (try (exfalso; simp only [*, reduceCtorEq] at e1; done))
  all_goals (try (exfalso; simp only [*, reduceCtorEq] at e2; done))
  all_goals (dsimp only; exact hret _ [_] _ _ (kept_of hst' (by assumption)) (made1 hst' (by assumption)) ⟨_, _, _, _, _, rfl, rfl⟩)
theorem w_words_Np_1 : True := by
  k_with "call ref" => (k_here; k_dflt (refine' Ctr.use (c_split _ _ (by assumption) (by assumption) (by assumption)) ?k1 ?k2 ?k3 ?k4 ?k5 ?kK ?kp ?kd ?ku ?_; (case k1 => k_asm); (case k2 => k_asm); (case k3 => k_asm); (case k4 => k_asm); (case k5 => k_asm); (case kK => exact rfl); (case kp => (exact True.intro)); (case kd => ktr_room); (case ku => ktr_units); k_whole; intro r9 tl9 h9 tk9 F9 N9 hl9 ho9; obtain ⟨D9, a9, b9, c9, e9, q9, u9⟩ := ho9; subst q9; subst u9; (dsimp only [List.cons_append, List.nil_append] at N9); (try simp only [List.forall_mem_cons, List.not_mem_nil, false_implies, implies_true, and_true, AllNe, List.cons_append, List.nil_append] at hl9); (try dsimp only)))
  trivial
noncomputable def npDef : Option (List Stmt × Scope) := findDef (Str.ofString "_normpath") PySem.Challenge.pw_pg0115_01.main.body
noncomputable def npScope : Option Scope := match npDef with | some (_, sc) => some sc | none => none
noncomputable def npSt (i : Nat) : Option Stmt := npDef.bind fun d => d.1[i]?
noncomputable abbrev npName : Str := Str.ofString "_normpath"
theorem str_values_at {l : List (Str × Tok)} {i : Nat} {v : Value} (h : (strValues l)[i]? = some v) : ∃ x t, l[i]? = some (x, t) ∧ v = .str x t := by
  unfold strValues at h
  rw [List.getElem?_map] at h
  obtain ⟨p, hp, e⟩ := Option.map_eq_some_iff.mp h
  exact ⟨p.1, p.2, hp, e.symm⟩
theorem map_close1 {mf km : Str → Option Value} {x : Str} (e2 : ∀ y, ¬ y = x → mf y = km y) : mf = fun y => if y = x then mf y else km y := by
  funext y
  by_cases hx : y = x
  · rw [if_pos hx]
  · rw [if_neg hx, e2 y hx]
noncomputable def NpJ (l : List (Str × Tok)) (ln : Addr) (km : Str → Option Value) (rest : List (Addr × Obj)) (i : Nat) (m' : Str → Option Value) (nx : List (Addr × Obj)) : Prop :=
  ∃ (u : Str → Option Value) (e : Nat), m' = (fun y => if y = Str.ofString "comp" then u y else km y) ∧ nx = (ln, W.listOf ((strValues l).take i).toArray e) :: rest
theorem truthy_text {prog : Program} {w : World} {A : Around} {E : Value → Shared → Prop} {s : Shared} {x : Str} {t : Tok} {Q : Bool → Shared → Prop} (hx : x.length ≤ 1000) (h0 : (x.length : Int) ≠ 0) (h : ∀ tk, Q true { s with toks := tk }) : wpAny (model prog w) A (truthy (.str x t)) Q E s := by
  refine SBL.truthy (by omega) ?_
  rw [show ((x.length : Int) != 0) = true from by simpa using h0]
  exact h _
theorem w_words_Np_2 : True := by
  k_with "truthy str" => (k_here; k_dflt (refine' truthy_text ?kl ?k0 ?_; (case kl => omega); (case k0 => assumption); k_whole; intro tk9))
  k_with "call builtin:list.append" => (k_here; k_dflt (refine' append_in (own := [_]) ?kF ?kN ?ko ?kr ?_ ?ks; (case kF => k_asm); (case kN => k_asm); (case ko => (intro p hp; rw [List.mem_singleton.mp hp]; assumption)); (case kr => assumption); (case ks => (rw [sizeLine_eq, List.length_take]; omega)); k_whole; intro h9 F9 N9; (simp only [List.cons_append, List.nil_append] at N9)))
  k_with "exec For Name Name cons nil" => (k_here; k_dflt (refine' wpAny_For ?_ (by intro _; rfl)))
  trivial
section
variable {w : World} {mean : ExcName → Option Value} {mg mb : Str → Option Value} {h₀ base : Heap} {L fa L0 a0 : Addr} {cd ccd0 : Value} {A₀ : Around} {outer outer0 : List Env} {dp un : Nat} {gd : Option (List Code)} {cn0 : Str} {cs0 : Scope} {cl0 : List (Str × Addr)} {m : Str → Option Value} {news : List (Addr × Obj)} {s : Shared} {Q : Flow → Shared → Prop} {E : Value → Shared → Prop} {st : Stmt} {sc : Scope}
set_option maxRecDepth 100000 in
set_option maxHeartbeats 8000000 in
theorem np_loop (hst : npSt 7 = some st) (hsc : npScope = some sc) (hd : dp + 1 < recursionLimit) (hu : un + 8 * 1 < cLine) (X : (Mine.hd.heap_1 w.params).In h₀) (T : Top Mine.hd.view_1 (looseW Mine.hd.view_1 []) mean mg mb h₀) (F : Fr h₀ L s.heap m) (N : News h₀ L s.heap news) {lc ln : Addr} {l : List (Str × Tok)} {k : Nat} {t3 t4 : Tok} {rest : List (Addr × Obj)} (h1 : m (Str.ofString "comps") = some (.ref lc)) (h2 : m (Str.ofString "new_comps") = some (.ref ln)) (h3 : m (Str.ofString "dot") = some (.str (Str.ofString ".") t3)) (h4 : m (Str.ofString "dotdot") = some (.str (Str.ofString "..") t4))
    (hn : news = (ln, W.listOf #[] 0) :: rest) (hm : (lc, W.listOf (strValues l).toArray k) ∈ rest) (hne : ∀ q ∈ rest, q.1 ≠ ln) (hsp : ∀ a ∈ l.map (·.1), a.length ≤ 1000 ∧ (a.length : Int) ≠ 0 ∧ a ≠ Str.ofString "." ∧ a ≠ Str.ofString "..") (hll : l.length ≤ 100)
    (ret : ∀ h' tk' (u : Str → Option Value) e, Fr h₀ L h' (fun y => if y = (Str.ofString "comp") then u y else m y) → News h₀ L h' ((ln, W.listOf (strValues l).toArray e) :: rest) → Q .next { s with heap := h', toks := tk' }) :
    wpAny (model PySem.Challenge.rw_pg0115_01.row.prog w) ((ktrTop dp un gd cn0 cs0 L0 a0 ccd0 cl0 outer0).deeper (envOf npName sc L fa cd)) (exec st (envOf npName sc L fa cd)) Q E s := by
  subst hn
  have hlen : (strValues l).length ≤ 100 := by simpa [strValues] using hll
  revert X
  k_fill
  intro X
  cases hst
  cases hsc
  (try dsimp only)
  have F := fr_know4 F h1 h2 h3 h4
  k_steps
  (rename Fr _ _ _ _ => kF)
  (rename News _ _ _ _ => kN)
  k_dflt (refine' for_led (n₀ := 0) (Nat.zero_le _) ?hF ?hN ?hm (NpJ l ln (fun y => if y = (Str.ofString "comps") then some (.ref lc) else if y = (Str.ofString "new_comps") then some (.ref ln) else if y = (Str.ofString "dot") then some (.str (Str.ofString ".") t3) else if y = (Str.ofString "dotdot") then some (.str (Str.ofString "..") t4) else m y) rest) ?j0 ?hh ?hol ?ht ?turn ?done)
  case hh => exact rfl
  case ht => exact .inr rfl
  case hF => exact kF
  case hN => exact kN
  case hm => exact .tail _ hm
  case j0 => exact ⟨_, 0, funext fun y => (ite_self _).symm, rfl⟩
  case hol =>
    rintro i m' nx ⟨u, e9, rfl, rfl⟩
    exact .tail _ hm
  case turn =>
    rintro i v m₁ nx h tk I oI _ hv ⟨u, e9, rfl, rfl⟩ F N hn
    obtain ⟨x, tx, hx, rfl⟩ := str_values_at hv
    obtain ⟨hx0, hx1, hx2, hx3⟩ := hsp x (List.mem_map_of_mem (f := fun x : Str × Tok => x.1) (List.mem_of_getElem? hx))
    obtain ⟨hn1, hn2⟩ := id hn
    have hn1 : I ≠ ln := hn1.symm
    have y2 : (x == Str.ofString ".") = false := by simpa using hx2
    have y3 : (x != Str.ofString "..") = true := by simpa using hx3
    clear ret
    k_steps
    all_goals (try (exfalso; simp only [*, reduceCtorEq] at y2; done))
    all_goals (try (exfalso; simp only [*, reduceCtorEq] at y3; done))
    (rename Fr _ _ _ _ => kF); (rename News _ _ _ _ => kN); (try dsimp only)
    refine TEnd.intro kF kN (.head _) (fun _ hp => .tail _ hp) hn ⟨_, _, map_close1 (fun y hy => ?_), by rw [List.take_add_one, hv]; rfl⟩
    simp only [if_neg hy]
  case done =>
    rintro m₁ nx h tk _ ⟨u, e9, rfl, rfl⟩ F N
    rw [List.take_length] at N
    exact ret h tk u e9 (by simp only [know_pt h1, know_pt h2, know_pt h3, know_pt h4] at F; exact F) N
end
end Mine
open PySem PySem.W PyProof.Rows
set_option Elab.async false
namespace Mine
theorem w_clear_Nq : True := by
  w_top off
  k_with_none
  k_with "callWith" => (k_here; (with_reducible show wpAny _ _ (callWith _ (Value.builtin _) (_ :: _) (backTo _ (starEach (_ :: _) _)) []) _ _ _); (with_reducible refine' PyProof.Rows.callWith_method1 ?_ ?he ?hp); (case he => k_dflt rfl); (case hp => k_dflt rfl))
  k_with "callWith" => (k_here; (with_reducible show wpAny _ _ (callWith _ (Value.builtin _) [] (backTo _ (starEach (_ :: _) _)) []) _ _ _); (with_reducible refine' PyProof.Rows.callWith_builtin1 ?_ ?he ?hp); (case he => k_dflt rfl); (case hp => k_dflt rfl))
  trivial
theorem w_words_Nq_1 : True := by
  k_with "call ref" => (k_here; k_dflt (refine' Ctr.use (c_split _ _ (by assumption) (by assumption) (by assumption)) ?k1 ?k2 ?k3 ?k4 ?k5 ?kK ?kp ?kd ?ku ?_; (case k1 => k_asm); (case k2 => k_asm); (case k3 => k_asm); (case k4 => k_asm); (case k5 => k_asm); (case kK => exact rfl); (case kp => (exact True.intro)); (case kd => ktr_room); (case ku => ktr_units); k_whole; intro r9 tl9 h9 tk9 F9 N9 hl9 ho9; obtain ⟨D9, a9, b9, c9, e9, q9, u9⟩ := ho9; subst q9; subst u9; (dsimp only [List.cons_append, List.nil_append] at N9); (try simp only [List.forall_mem_cons, List.not_mem_nil, false_implies, implies_true, and_true, AllNe, List.cons_append, List.nil_append] at hl9); (try dsimp only)))
  trivial
/-- what is asked of a path's text, shut (the walk's omega does not look in) -/
noncomputable def NpF (p : Str) : Prop := (∀ a ∈ Txt.split (Txt.slice p (some 1) none) (Str.ofString "/"), a.length ≤ 1000 ∧ (a.length : Int) ≠ 0 ∧ a ≠ Str.ofString "." ∧ a ≠ Str.ofString "..") ∧ (Txt.split (Txt.slice p (some 1) none) (Str.ofString "/")).length ≤ 100 ∧
    ((Txt.split (Txt.slice p (some 1) none) (Str.ofString "/")).map (·.length)).sum + (Txt.split (Txt.slice p (some 1) none) (Str.ofString "/")).length * (Str.ofString "/").length ≤ 16777216 ∧
    (Str.ofString "/").length + (Txt.join (Str.ofString "/") (Txt.split (Txt.slice p (some 1) none) (Str.ofString "/"))).length ≤ sizeLine ∧ Str.ofString "/" ++ Txt.join (Str.ofString "/") (Txt.split (Txt.slice p (some 1) none) (Str.ofString "/")) = p
theorem NpF.sp {p : Str} {l : List (Str × Tok)} (e : l.map (fun x : Str × Tok => x.1) = Txt.split (Txt.slice p (some 1) none) (Str.ofString "/")) (h : NpF p) : ∀ a ∈ l.map (fun x : Str × Tok => x.1), a.length ≤ 1000 ∧ (a.length : Int) ≠ 0 ∧ a ≠ Str.ofString "." ∧ a ≠ Str.ofString ".." := by rw [e]; exact h.1
theorem NpF.len {p : Str} {l : List (Str × Tok)} (e : l.map (fun x : Str × Tok => x.1) = Txt.split (Txt.slice p (some 1) none) (Str.ofString "/")) (h : NpF p) : l.length ≤ 100 := by
  have h8 := congrArg List.length e
  rw [List.length_map] at h8
  rw [h8]
  exact h.2.1
theorem NpF.j1 {p : Str} {l : List (Str × Tok)} (e : l.map (fun x : Str × Tok => x.1) = Txt.split (Txt.slice p (some 1) none) (Str.ofString "/")) (h : NpF p) : ((l.map (fun x : Str × Tok => x.1)).map (·.length)).sum + (l.map (fun x : Str × Tok => x.1)).length * (Str.ofString "/").length ≤ 16777216 := by rw [e]; exact h.2.2.1
theorem NpF.j2 {p : Str} {l : List (Str × Tok)} (e : l.map (fun x : Str × Tok => x.1) = Txt.split (Txt.slice p (some 1) none) (Str.ofString "/")) (h : NpF p) : (Str.ofString "/").length + (Txt.join (Str.ofString "/") (l.map (fun x : Str × Tok => x.1))).length ≤ sizeLine := by rw [e]; exact h.2.2.2.1
theorem NpF.j {p : Str} {l : List (Str × Tok)} (e : l.map (fun x : Str × Tok => x.1) = Txt.split (Txt.slice p (some 1) none) (Str.ofString "/")) (h : NpF p) : Str.ofString "/" ++ Txt.join (Str.ofString "/") (l.map (fun x : Str × Tok => x.1)) = p := by rw [e]; exact h.2.2.2.2
theorem w_words_Nq_2 : True := by
  k_with "newList" => (k_here; k_dflt (refine' PySem.W.newList_K ?k1 ?k2 ?_ ?ks; (case k1 => k_asm); (case k2 => k_asm); (case ks => (rw [sizeLine_eq]; exact Nat.le_of_ble_eq_true rfl)); k_whole); intro l' h' F' N' l1; (try k_lt l1); (try k_sweep))
  k_with "exec For Name Name cons nil" => (k_here; (rename News _ _ _ _ => kN9); (with_reducible rename List.map (fun x : Str × Tok => x.1) _ = _ => hlm); (with_reducible rename NpF _ => hnp); k_dflt (refine' np_loop rfl rfl ?hd ?hu ?hX ?hT ?hF kN9 ?h1 ?h2 ?h3 ?h4 ?hn ?hm ?hne (NpF.sp hlm hnp) (NpF.len hlm hnp) ?_; (case hd => omega); (case hu => omega); (case hX => k_asm); (case hT => k_asm); (case hF => k_asm); (case h1 => exact rfl); (case h2 => exact rfl); (case h3 => exact rfl); (case h4 => exact rfl); (case hn => exact rfl); (case hm => exact .head _); (case hne => k_all); k_whole; intro h9 tk9 u9 e9 F9 N9; (try dsimp only)))
  k_with "call builtin:str.join" => (k_here; (with_reducible rename List.map (fun x : Str × Tok => x.1) _ = _ => hlm); (with_reducible rename NpF _ => hnp); k_dflt (refine' join_list ?hl ?hi (NpF.j1 hlm hnp) ?_; (case hl => is_list); (case hi => assumption); k_whole; intro t9 k9))
  k_with "binaryOp Add str str" => (k_here; (with_reducible rename List.map (fun x : Str × Tok => x.1) _ = _ => hlm); (with_reducible rename NpF _ => hnp); k_dflt (refine' PyProof.Rows.add_str ?_ (NpF.j2 hlm hnp); k_whole; intro t9 tk9))
  k_with "truthy str" => (k_here; (with_reducible rename List.map (fun x : Str × Tok => x.1) _ = _ => hlm); (with_reducible rename NpF _ => hnp); k_dflt (refine' truthy_text ?kl ?k0 ?_; (case kl => (rw [NpF.j hlm hnp]; omega)); (case k0 => (rw [NpF.j hlm hnp]; omega)); k_whole; intro tk9))
  trivial
set_option maxRecDepth 100000 in
set_option maxHeartbeats 8000000 in
theorem c_np (w : World) {p : Str} (t : Tok) (hl : p.length ≤ 100) (hp : 1 ≤ p.length) (e1 : (Txt.slice p none (some 1) != Str.ofString "/") = false) (e2 : (Txt.slice p (some 1) (some 2) != Str.ofString "/") = true)
    (hnp : NpF p)
    : Ctr w 49 2 [.str p t] (fun _ => True) (OutS p) := by
  unfold Ctr
  k_fill
  intro mean mg mb dp un gd cn cs a ccd cl outer A₀ base h₀ L m s Q E B F X T hk hpre hd hu hret
  refine wpAny_call ?_
  k_dflt (refine' callV (P := fun _ => True) hpre ?k1 ?k2 ?k3 ?k5 ?kA ?kF ?kK ?k6 ?k7 ?k8 ?k9 ?kB ?_ ?c2 ?c3 ?c4 ?c5; (case kA => exact rfl); (case kF => exact rfl); (case kK => assumption); (case k1 => k_asm); (case k2 => k_asm); (case k3 => k_asm); (case k5 => k_asm); (case k6 => k_is); (case k7 => k_is); (case k8 => ktr_room); (case k9 => exact BindsTo.of_eq rfl); (case c5 => decide); (case kB => exact locs rfl); (case c2 => exact rfl); (case c3 => exact rfl); (case c4 => exact rfl); k_whole)
  intro g' L' h' hpre' hst' F' N' B' X' T'
  clear B F X T hpre
  (try dsimp only)
  (try k_fold)
  k_steps
  all_goals (try (exfalso; omega))
  all_goals (
    (with_reducible rename List.map (fun x : Str × Tok => x.1) _ = _ => hlm)
    (with_reducible rename NpF _ => hnq)
    exact hret _ [] _ _ (kept_of hst' (by assumption)) (fun _ h => nomatch h) ⟨_, by rw [NpF.j hlm hnq], rfl⟩)
/-! the folders' texts stay as they are -/
noncomputable def npOk (p : Str) : Bool :=
  decide (p.length ≤ 100) && decide (1 ≤ p.length) && !(Txt.slice p none (some 1) != Str.ofString "/") && (Txt.slice p (some 1) (some 2) != Str.ofString "/") &&
  (Txt.split (Txt.slice p (some 1) none) (Str.ofString "/")).all (fun a => decide (a.length ≤ 1000) && decide ((a.length : Int) ≠ 0) && decide (a ≠ Str.ofString ".") && decide (a ≠ Str.ofString "..")) &&
  decide ((Txt.split (Txt.slice p (some 1) none) (Str.ofString "/")).length ≤ 100) &&
  decide (((Txt.split (Txt.slice p (some 1) none) (Str.ofString "/")).map (·.length)).sum + (Txt.split (Txt.slice p (some 1) none) (Str.ofString "/")).length * (Str.ofString "/").length ≤ 16777216) &&
  decide ((Str.ofString "/").length + (Txt.join (Str.ofString "/") (Txt.split (Txt.slice p (some 1) none) (Str.ofString "/"))).length ≤ 16777216) &&
  decide (Str.ofString "/" ++ Txt.join (Str.ofString "/") (Txt.split (Txt.slice p (some 1) none) (Str.ofString "/")) = p)
theorem c_npOk (w : World) {p : Str} (t : Tok) (h : npOk p = true) : Ctr w 49 2 [.str p t] (fun _ => True) (OutS p) := by
  unfold npOk at h
  simp only [Bool.and_eq_true, decide_eq_true_eq, Bool.not_eq_true', List.all_eq_true] at h
  obtain ⟨⟨⟨⟨⟨⟨⟨⟨h1, h2⟩, h3⟩, h4⟩, h5⟩, h6⟩, h7⟩, h8⟩, h9⟩ := h
  exact c_np w t h1 h2 h3 h4 ⟨fun a ha => by obtain ⟨⟨⟨a1, a2⟩, a3⟩, a4⟩ := h5 a ha; exact ⟨a1, a2, a3, a4⟩, h6, h7, by rw [sizeLine_eq]; exact h8, h9⟩
noncomputable def dgs : List Str := [Str.ofString "0", Str.ofString "1", Str.ofString "10", Str.ofString "11"]
theorem dg_mem {i : Int} (h0 : 0 ≤ i) (h1 : i < 4) : dg i ∈ dgs := by
  rcases (show i = 0 ∨ i = 1 ∨ i = 2 ∨ i = 3 by omega) with rfl | rfl | rfl | rfl <;> decide
theorem np_all : dgs.all (fun a => npOk (Txt.join (Str.ofString "/") [Str.ofString "", Str.ofString "light", a]) && dgs.all (fun b => npOk (Txt.join (Str.ofString "/") [Str.ofString "", Str.ofString "light", a, b]))) = true := by decide +kernel
theorem np_fld {k : Int} (n : Int) (h0 : 1 ≤ k) (h1 : k ≤ 2) : npOk (fldT k.toNat n) = true := by
  have m1 := dg_mem (Int.fmod_nonneg_of_pos n (show (0 : Int) < 4 by decide)) (Int.fmod_lt_of_pos n (by decide))
  have m2 := dg_mem (Int.fmod_nonneg_of_pos (n.fdiv 4) (show (0 : Int) < 4 by decide)) (Int.fmod_lt_of_pos (n.fdiv 4) (by decide))
  have h := np_all
  rcases (show k = 1 ∨ k = 2 by omega) with rfl | rfl
  · have := List.all_eq_true.mp h _ m1
    rw [Bool.and_eq_true] at this
    exact this.1
  · have := List.all_eq_true.mp h _ m2
    rw [Bool.and_eq_true] at this
    exact List.all_eq_true.mp this.2 _ m1
end Mine
open PySem PySem.W PyProof.Rows
set_option Elab.async false
namespace Mine
theorem w_clear_Nr : True := by
  w_top off
  k_with_none
  k_with "callWith" => (k_here; (with_reducible show wpAny _ _ (callWith _ (Value.builtin _) (_ :: _) (backTo _ (starEach (_ :: _) _)) []) _ _ _); (with_reducible refine' PyProof.Rows.callWith_method1 ?_ ?he ?hp); (case he => k_dflt rfl); (case hp => k_dflt rfl))
  k_with "callWith" => (k_here; (with_reducible show wpAny _ _ (callWith _ (Value.builtin _) [] (backTo _ (starEach (_ :: _) _)) []) _ _ _); (with_reducible refine' PyProof.Rows.callWith_builtin1 ?_ ?he ?hp); (case he => k_dflt rfl); (case hp => k_dflt rfl))
  trivial
local macro_rules | `(tactic| k_room) => `(tactic| ktr_room)
theorem truthy_empty {prog : Program} {w : World} {A : Around} {E : Value → Shared → Prop} {s : Shared} {h₀ : Heap} {L : Addr} {news : List (Addr × Obj)} {D : Addr} {Q : Bool → Shared → Prop} (N : News h₀ L s.heap news) (hm : (D, dictOf [] 0) ∈ news) (lo : (D == sysModules) = false) (h : ∀ tk, Q false { s with toks := tk }) :
    wpAny (model prog w) A (truthy (.ref D)) Q E s := by
  have hd : (dictOf [] 0).IsDictOf (PySem.strKind prog w) [] := kp_isDict (ex := []) 0 0 .nil
  refine wpAny_truthy_dict (knd := PySem.strKind prog w) (kvs := []) lo (kda_dict N hm hd) (by decide) ?_
  exact h _
theorem w_words_Nr_1 : True := by
  k_with "truthy ref" => (k_here; k_dflt (refine' truthy_empty ?kN ?kl ?kr ?_; (case kN => k_asm); (case kl => k_mem); (case kr => assumption); k_whole; intro tk9))
  k_with "call ref" => (k_here; k_dflt (refine' Ctr.useS (c_npOk _ _ (by assumption)) ?k1 ?k2 ?k3 ?k4 ?k5 ?kK ?kp ?kd ?ku ?_; (case k1 => k_asm); (case k2 => k_asm); (case k3 => k_asm); (case k4 => k_asm); (case k5 => k_asm); (case kK => exact rfl); (case kp => (exact True.intro)); (case kd => ktr_room); (case ku => ktr_units); k_whole; intro a9 h9 tk9 F9 N9; (try dsimp only)))
  trivial
set_option maxRecDepth 100000 in
set_option maxHeartbeats 8000000 in
theorem c_norm (w : World) {p : Str} (t : Tok) (hp : npOk p = true) : Ctr w 56 5 [.str p t] (fun _ => True) (OutS p) := by
  unfold Ctr
  k_fill
  intro mean mg mb dp un gd cn cs a ccd cl outer A₀ base h₀ L m s Q E B F X T hk hpre hd hu hret
  refine wpAny_call ?_
  k_dflt (refine' callVB (vs := [.str p t]) B F X T ?kA ?kF ?kK ?k6 ?k7 ?k8 ?kP ?kS ?kT ?kB ?_ ?c2 ?c3 ?c4 ?c5; (case kA => exact rfl); (case kF => exact rfl); (case kK => assumption); (case k6 => k_is); (case k7 => k_is); (case k8 => ktr_room); (case kP => exact rfl); (case kS => exact fun _ => rfl); (case kT => exact fun _ _ => rfl); (case kB => exact fun _ _ => locs rfl); (case c5 => decide); (case c2 => exact rfl); (case c3 => exact rfl); (case c4 => exact rfl); k_whole)
  intro C D L' h' tk' hCD lo' F' N' B' X' T'
  clear B F X T hpre
  (try dsimp only)
  (try k_fold)
  k_steps
  (rename Fr _ _ _ _ => kF)
  exact hret _ [] _ _ kF.keep (fun _ h => nomatch h) ⟨_, rfl, rfl⟩
end Mine
open PySem PySem.W PyProof.Rows
set_option Elab.async false
namespace Mine
theorem w_clear_Ai : True := by
  w_top off
  k_with_none
  k_with "callWith" => (k_here; (with_reducible show wpAny _ _ (callWith _ (Value.builtin _) (_ :: _) (backTo _ (starEach (_ :: _) _)) []) _ _ _); (with_reducible refine' PyProof.Rows.callWith_method1 ?_ ?he ?hp); (case he => k_dflt rfl); (case hp => k_dflt rfl))
  k_with "callWith" => (k_here; (with_reducible show wpAny _ _ (callWith _ (Value.builtin _) [] (backTo _ (starEach (_ :: _) _)) []) _ _ _); (with_reducible refine' PyProof.Rows.callWith_builtin1 ?_ ?he ?hp); (case he => k_dflt rfl); (case hp => k_dflt rfl))
  trivial
open PyProof.Rows.LCg
theorem call_set_N {prog : Program} {w : World} {A : Around} {E : Value → Shared → Prop} {s : Shared} {h₀ : Heap} {L : Addr} {m : Str → Option Value} {news : List (Addr × Obj)} {l : Addr} {vs : List Value} {k : Nat} {xs : List Str} {Q : Value → Shared → Prop}
    (F : Fr h₀ L s.heap m) (N : News h₀ L s.heap news) (hh : A.handled = none) (hl : (l, W.listOf vs.toArray k) ∈ news) (hv : StrsAre vs xs) (hb : xs.length + 1 < scanBound)
    (h : ∀ S h' tk o, Fr h₀ L h' m → News h₀ L h' ((S, o) :: news) → AllLt S news → SetS prog w o xs → Q (.ref S) { s with heap := h', toks := tk }) :
    wpAny (model prog w) A (call (.type "set") [.ref l]) Q E s := by
  refine call_set_strs hh ⟨_, (N _ hl).1, rfl, _, rfl⟩ hv hb fun h' tk o hk ho hS => ?_
  refine h _ h' tk o (F.keeps hk) (fun p hp => ?_) (allLt_of fun p hp => Heap.lt_size (N p hp).1) hS
  rcases List.mem_cons.mp hp with rfl | hp
  · refine ⟨ho, Nat.ne_of_gt F.ns.lt, ?_⟩
    cases q : h₀.get? s.heap.objs.size with
    | none => rfl
    | some o' => exact absurd (Heap.lt_size (F.keep _ _ q)) (Nat.lt_irrefl _)
  · exact ⟨hk _ _ (N p hp).1, (N p hp).2⟩
theorem truthy_cons {prog : Program} {w : World} {A : Around} {E : Value → Shared → Prop} {s : Shared} {h₀ : Heap} {L : Addr} {news : List (Addr × Obj)} {l : Addr} {v : Value} {r : List Value} {k : Nat} {Q : Bool → Shared → Prop}
    (N : News h₀ L s.heap news) (hl : (l, W.listOf (v :: r).toArray k) ∈ news) (hr : r.length ≤ 1000) (h : ∀ tk, Q true { s with toks := tk }) : wpAny (model prog w) A (truthy (.ref l)) Q E s := by
  refine wpAny_truthy_list (items := (v :: r).toArray) ⟨_, (N _ hl).1, rfl, _, rfl⟩ ?_ ?_
  · simp; omega
  · have e : (!(v :: r).toArray.isEmpty) = true := by simp
    rw [e]
    exact h _
theorem w_words_Ai_1 : True := by
  k_with "truthy ref" => (k_here; k_dflt (refine' truthy_cons ?kN ?kl ?kr ?_; (case kN => k_asm); (case kl => k_mem); (case kr => assumption); k_whole; intro tk9))
  k_with "call type:set" => (k_here; k_dflt (refine' call_set_N ?kF ?kN ?kh ?kl ?kv ?kb ?_; (case kF => k_asm); (case kN => k_asm); (case kh => exact rfl); (case kl => k_mem); (case kv => assumption); (case kb => assumption); k_whole; intro S9 h9 tk9 o9 F9 N9 l9 d9; (simp only [AllLt, and_true] at l9)))
  k_with "eval ListComp" => (k_here; k_dflt (refine comp1_eval (by k_asm) rfl (by with_unfolding_all rfl) (by decide) (by rfl) (by decide) (by rfl) ?_))
  trivial
local macro_rules | `(tactic| ktr_units) => `(tactic| ((try simp only [units_under_make, units_in1, units_deeper, Around.mark_units, units_caller]); (try dsimp only [ktrTop]); omega))
theorem w_words_Ai_2 : True := by
  k_with "call ref" => (k_here; k_dflt (refine' Ctr.useS (c_norm _ _ (by assumption)) ?k1 ?k2 ?k3 ?k4 ?k5 ?kK ?kp ?kd ?ku ?_; (case k1 => k_asm); (case k2 => k_asm); (case k3 => k_asm); (case k4 => k_asm); (case k5 => k_asm); (case kK => exact rfl); (case kp => (exact True.intro)); (case kd => ktr_room); (case ku => ktr_units); k_whole; intro a9 h9 tk9 F9 N9; (try dsimp only)))
  trivial
/-- what the new object holds -/
noncomputable def ignEs (w : World) (S D G : Addr) (t1 t2 t3 : Nat) : List DictEntry :=
  [⟨PyData.keyHash w.params (Str.ofString "_mods"), .str (Str.ofString "_mods") t1, .ref S⟩, ⟨PyData.keyHash w.params (Str.ofString "_dirs"), .str (Str.ofString "_dirs") t2, .ref D⟩, ⟨PyData.keyHash w.params (Str.ofString "_ignore"), .str (Str.ofString "_ignore") t3, .ref G⟩]
section
variable {w : World} {mean : ExcName → Option Value} {mg mb : Str → Option Value} {h₀ base : Heap} {L fa L0 a0 : Addr} {cd ccd0 : Value} {A₀ : Around} {outer outer0 : List Env} {dp un : Nat} {gd : Option (List Code)} {cn0 : Str} {cs0 : Scope} {cl0 : List (Str × Addr)} {m : Str → Option Value} {news : List (Addr × Obj)} {s : Shared} {Q : Flow → Shared → Prop} {E : Value → Shared → Prop} {st : Stmt} {sc : Scope}
set_option maxRecDepth 100000 in
set_option maxHeartbeats 8000000 in
theorem new_ign (hd : dp + 12 < recursionLimit) (hu : un + 8 * 12 < cLine) (B : Below (ktrTop dp un gd cn0 cs0 L0 a0 ccd0 cl0 outer0) base (envX cn0 cs0 L0 a0 ccd0 cl0 :: outer0) h₀) (hk0 : cs0.kind = .function) (hks : sc.kind = .function) (X : (Mine.hd.heap_1 w.params).In h₀) (T : Top Mine.hd.view_1 (looseW Mine.hd.view_1 []) mean mg mb h₀) (F : Fr h₀ L s.heap m) (N : News h₀ L s.heap news) {lt lf : Addr} {v1 v2 : Value} {ys1 ys2 : List Value} {xs1 xs2 : List Str} {k1 k2 : Nat} {rest : List (Addr × Obj)} {Q : Value → Shared → Prop} (hn : news = (lf, W.listOf (v2 :: ys2).toArray k2) :: (lt, W.listOf (v1 :: ys1).toArray k1) :: rest)
   (hs1 : StrsAre (v1 :: ys1) xs1) (hs2 : StrsAre (v2 :: ys2) xs2) (hb1 : xs1.length + 1 < scanBound) (hne : lf ≠ lt) (hr1 : ys1.length ≤ 1000) (hr2 : ys2.length ≤ 1000) (hok : ∀ x ∈ xs2, npOk x = true) (hrf : ∀ q ∈ rest, q.1 ≠ lf) (hrt : ∀ q ∈ rest, q.1 ≠ lt)
   (ret : ∀ x dx S D G oS oG ysD h' tk' t9 t8 (ti : Nat), Fr h₀ L h' m → News h₀ L h' ((G, oG) :: (D, lst ysD) :: (S, oS) :: (x, instObj 79 dx) :: (dx, dictOf (ignEs w S D G t9 t8 ti) 3) :: (lf, W.listOf (v2 :: ys2).toArray k2) :: (lt, W.listOf (v1 :: ys1).toArray k1) :: rest) →
     (∀ q ∈ (D, lst ysD) :: (S, oS) :: (x, instObj 79 dx) :: (dx, dictOf (ignEs w S D G t9 t8 ti) 3) :: (lf, W.listOf (v2 :: ys2).toArray k2) :: (lt, W.listOf (v1 :: ys1).toArray k1) :: rest, q.1 ≠ G) → SetS PySem.Challenge.rw_pg0115_01.row.prog w oS xs1 → StrsAre ysD xs2 →
     (∃ (t7 t6 : Tok), oG.IsDictOf (PySem.strKind PySem.Challenge.rw_pg0115_01.row.prog w) [(Str.ofString "<string>", .int 1 t6)] ∧ t7 = t6) → (G == sysModules) = false → (∀ q ∈ rest, q.1 ≠ D ∧ q.1 ≠ S ∧ q.1 ≠ x ∧ q.1 ≠ dx) → (S ≠ D ∧ S ≠ x ∧ S ≠ dx ∧ D ≠ x ∧ D ≠ dx) → Q (.ref x) { s with heap := h', toks := tk' }) :
    wpAny (model PySem.Challenge.rw_pg0115_01.row.prog w) ((ktrTop dp un gd cn0 cs0 L0 a0 ccd0 cl0 outer0).deeper (envOfC anName sc L fa cd)) (call (.ref 79) [.ref lt, .ref lf]) Q E s := by
  subst hn
  have N2 := news_sub N (n' := [(lf, W.listOf (v2 :: ys2).toArray k2), (lt, W.listOf (v1 :: ys1).toArray k1)]) (fun p hp => by simp only [List.mem_cons, List.not_mem_nil, or_false] at hp ⊢; rcases hp with h | h <;> simp [h])
  revert X
  k_fill
  intro X
  k_dflt (refine' call_cls F X N ?hm ?hi ?hf ?_)
  case hm => k_is
  case hi => k_is
  case hf => k_is
  intro x dx h' F' N0' l1 l2
  have N' := news_sub N0' (n' := [(x, instObj 79 dx), (dx, dictOf [] 0), (lf, W.listOf (v2 :: ys2).toArray k2), (lt, W.listOf (v1 :: ys1).toArray k1)]) (fun p hp => by simp only [List.mem_cons, List.not_mem_nil, or_false] at hp ⊢; rcases hp with h | h | h | h <;> simp [h])
  have l0 := l1
  have l1 : ∀ p ∈ [(lf, W.listOf (v2 :: ys2).toArray k2), (lt, W.listOf (v1 :: ys1).toArray k1)], p.1 < dx := fun p hp => l0 p (by simp only [List.mem_cons, List.not_mem_nil, or_false] at hp ⊢; rcases hp with h | h <;> simp [h])
  k_dflt (refine' callM N' ?k1 ?k2 ?k3 ?k5 ?kA ?kF ?kK ?k6 ?k7 ?k8 ?k9 ?kB ?_ ?c2 ?c3 ?c4 ?c5; (case kA => exact rfl); (case kF => exact rfl); (case kK => exact hks); (case k1 => k_asm); (case k2 => k_asm); (case k3 => k_asm); (case k5 => k_asm); (case k6 => k_is); (case k7 => k_is); (case k8 => ktr_room); (case k9 => first | exact BindsTo.of_eq rfl | exact binds_K (by k_in) rfl (by k_is) rfl rfl rfl); (case c5 => decide); (case kB => exact locs rfl); (case c2 => exact rfl); (case c3 => exact rfl); (case c4 => exact rfl); k_whole)
  intro g L' h1 hg F1 N1 B1 X1 T1
  k_lt l1
  k_lt2 l2
  have hne9 : @Ne Nat lf lt := hne
  (try dsimp only)
  k_steps
  (rename Fr _ _ _ _ => kF)
  (rename News _ _ _ _ => kN)
  refine ⟨lf, v2 :: ys2, k2, _, fun i ys nx => nx = _ ∧ StrsAre ys (xs2.take i), rfl, kF, kN, ⟨rfl, .nil⟩, by rw [sizeLine_eq, List.length_cons]; omega, ?_, ?_, ?_⟩
  · rintro i ys nx ⟨rfl, _⟩
    k_mem
  · rintro i v ys nx I oI C oC D m₂ g9 h9 tk9 E9 hv ⟨rfl, hS⟩ hC hv1 F N off ne
    obtain ⟨x9, t9, rfl, hx9⟩ := strs_at hs2 hv
    have hok9 := hok x9 (List.mem_of_getElem? hx9)
    simp only [Off3, and_true] at off
    (try dsimp only)
    k_steps
    (rename Fr _ _ _ _ => kF9); (rename News _ _ _ _ => kN9)
    refine ⟨_, _, _, rfl, kF9, kN9, ?_, rfl, ?_⟩
    · simp only [Off3, and_true]
      exact off
    · rw [List.take_add_one, hx9]
      exact strs_app hS
  · rintro D9 h9 tk9 ys9 nx F9 N9 o9 ⟨rfl, hS9⟩
    simp only [Off1, and_true] at o9
    (try dsimp only)
    k_steps
    (rename Fr _ _ _ _ => kF); (rename News _ _ _ _ => kN); (rename Obj.IsDictOf _ _ _ => kD)
    refine ⟨rfl, ?_⟩
    have hr9 : ∀ q ∈ rest, q.1 ∉ [(x, instObj 79 dx), (dx, dictOf [] 0), (lf, W.listOf (v2 :: ys2).toArray k2), (lt, W.listOf (v1 :: ys1).toArray k1)].map (·.1) := fun q hq hm => by
      have z := l0 q (.tail _ (.tail _ hq))
      have z1 := hrf q hq
      have z2 := hrt q hq
      simp only [List.map_cons, List.map_nil, List.mem_cons, List.not_mem_nil, or_false] at hm
      rcases hm with e | e | e | e
      · rw [e] at z; exact absurd z (Nat.lt_asymm l2)
      · rw [e] at z; exact absurd z (Nat.lt_irrefl _)
      · exact z1 e
      · exact z2 e
    obtain ⟨F8, N8, n8⟩ := back_fr F' (by exact N0') hg kF.keep hr9 kN
    (rename (_ == sysModules) = false => lo8)
    refine ret x dx _ D9 _ _ _ ys9 _ _ _ _ _ F8 N8 ?_ (by assumption) (by rw [strs_len hs2, List.take_length] at hS9; exact hS9) ⟨_, _, kD, rfl⟩ lo8 (fun q hq => ⟨n8 q hq _ (.tail _ (.head _)), n8 q hq _ (.tail _ (.tail _ (.head _))), n8 q hq _ (.tail _ (.tail _ (.tail _ (.head _)))), n8 q hq _ (.tail _ (.tail _ (.tail _ (.tail _ (.head _)))))⟩) ⟨neN (by omega), neN (by omega), neN (by omega), neN (by omega), neN (by omega)⟩
    intro q hq
    simp only [List.mem_cons] at hq
    rcases hq with rfl | rfl | rfl | rfl | rfl | rfl | hq
    · exact Nat.ne_of_lt (by omega)
    · exact Nat.ne_of_lt (by omega)
    · exact Nat.ne_of_lt (by omega)
    · exact Nat.ne_of_lt (by omega)
    · exact Nat.ne_of_lt (by omega)
    · exact Nat.ne_of_lt (by omega)
    · exact n8 q hq _ (.head _)
end
end Mine
open PySem PySem.W PyProof.Rows
set_option Elab.async false
namespace Mine
theorem w_clear_Ap : True := by
  w_top off
  k_with_none
  k_with "callWith" => (k_here; (with_reducible show wpAny _ _ (callWith _ (Value.builtin _) (_ :: _) (backTo _ (starEach (_ :: _) _)) []) _ _ _); (with_reducible refine' PyProof.Rows.callWith_method1 ?_ ?he ?hp); (case he => k_dflt rfl); (case hp => k_dflt rfl))
  k_with "callWith" => (k_here; (with_reducible show wpAny _ _ (callWith _ (Value.builtin _) [] (backTo _ (starEach (_ :: _) _)) []) _ _ _); (with_reducible refine' PyProof.Rows.callWith_builtin1 ?_ ?he ?hp); (case he => k_dflt rfl); (case hp => k_dflt rfl))
  trivial
open PyProof.Rows.LCg
section
variable {w : World} {mean : ExcName → Option Value} {mg mb : Str → Option Value} {h₀ base : Heap} {L fa L0 a0 : Addr} {cd ccd0 : Value} {A₀ : Around} {outer outer0 : List Env} {dp un : Nat} {gd : Option (List Code)} {cn0 : Str} {cs0 : Scope} {cl0 : List (Str × Addr)} {m : Str → Option Value} {news : List (Addr × Obj)} {s : Shared} {Q : Flow → Shared → Prop} {E : Value → Shared → Prop} {st : Stmt} {sc : Scope}
set_option maxRecDepth 100000 in
set_option maxHeartbeats 8000000 in
theorem an2 (hst : anSt 2 = some st) (hsc : anScope = some sc) (hd : dp + 12 < recursionLimit) (hu : un + 8 * 12 < cLine) (B : Below (ktrTop dp un gd cn0 cs0 L0 a0 ccd0 cl0 outer0) base (envX cn0 cs0 L0 a0 ccd0 cl0 :: outer0) h₀) (hk0 : cs0.kind = .function) (hks : sc.kind = .function) (X : (Mine.hd.heap_1 w.params).In h₀) (T : Top Mine.hd.view_1 (looseW Mine.hd.view_1 []) mean mg mb h₀) (F : Fr h₀ L s.heap m) (N : News h₀ L s.heap news) {lt lf : Addr} {v1 v2 : Value} {ys1 ys2 : List Value} {xs1 xs2 : List Str} {k1 k2 : Nat} {oR oF oM : Obj} {vR : Option Value} (h1 : m (Str.ofString "taken") = some (.ref lt)) (h2 : m (Str.ofString "folders") = some (.ref lf)) (hn : news = [(lf, W.listOf (v2 :: ys2).toArray k2), (lt, W.listOf (v1 :: ys1).toArray k1), (L + 1 + 1 + 1, oR), (L + 1 + 1, oF), (L + 1, oM)])
   (dR : oR.data = .cell vR) (hs1 : StrsAre (v1 :: ys1) xs1) (hs2 : StrsAre (v2 :: ys2) xs2) (hb1 : xs1.length + 1 < scanBound) (hne : lf ≠ lt) (hr1 : ys1.length ≤ 1000) (hr2 : ys2.length ≤ 1000) (hok : ∀ x ∈ xs2, npOk x = true)
   (hrf : ∀ q ∈ [(L + 1 + 1 + 1, oR), (L + 1 + 1, oF), (L + 1, oM)], q.1 ≠ lf) (hrt : ∀ q ∈ [(L + 1 + 1 + 1, oR), (L + 1 + 1, oF), (L + 1, oM)], q.1 ≠ lt)
   (ret : ∀ x dx S D G oS oG ysD oR' h' tk' t9 t8 (ti t6 : Nat), Fr h₀ L h' m → News h₀ L h' [(G, oG), (D, lst ysD), (S, oS), (x, instObj 79 dx), (dx, dictOf (ignEs w S D G t9 t8 ti) 3), (L + 1 + 1 + 1, oR'), (L + 1 + 1, oF), (L + 1, oM)] → oR'.data = .cell (some (.ref x)) →
     (D ≠ G ∧ S ≠ G ∧ x ≠ G ∧ dx ≠ G ∧ L + 1 + 1 + 1 ≠ G ∧ L + 1 + 1 ≠ G ∧ L + 1 ≠ G) → SetS PySem.Challenge.rw_pg0115_01.row.prog w oS xs1 → StrsAre ysD xs2 →
     oG.IsDictOf (PySem.strKind PySem.Challenge.rw_pg0115_01.row.prog w) [(Str.ofString "<string>", .int 1 t6)] → (G == sysModules) = false → (S ≠ x ∧ S ≠ dx ∧ D ≠ x ∧ D ≠ dx) → Q .next { s with heap := h', toks := tk' }) :
    wpAny (model PySem.Challenge.rw_pg0115_01.row.prog w) ((ktrTop dp un gd cn0 cs0 L0 a0 ccd0 cl0 outer0).deeper (envOfC anName sc L fa cd)) (exec st (envOfC anName sc L fa cd)) Q E s := by
  subst hn
  have hks' := hks
  revert X
  k_fill
  intro X
  cases hst
  cases hsc
  (try dsimp only)
  have F := fr_know2 F h1 h2
  k_steps
  (rename News _ _ _ _ => kN); (rename Fr _ _ _ _ => kF)
  refine new_ign hd hu B hk0 rfl X T kF kN rfl hs1 hs2 hb1 hne hr1 hr2 hok hrf hrt fun x dx S D G oS oG ysD h' tk' t9 t8 ti F9 N9 hG hSS hys hDD lo hrs hdd => ?_
  obtain ⟨t7, t6, hDG, _⟩ := hDD
  obtain ⟨r1, r2, r3, r4⟩ := hrs _ (.head _)
  obtain ⟨r5, r6, r7, r8⟩ := hrs _ (.tail _ (.head _))
  obtain ⟨r9, r10, r11, r12⟩ := hrs _ (.tail _ (.tail _ (.head _)))
  have g1 := hG _ (.head _)
  have g2 := hG _ (.tail _ (.head _))
  have g3 := hG _ (.tail _ (.tail _ (.head _)))
  have g4 := hG _ (.tail _ (.tail _ (.tail _ (.head _))))
  have g5 := hG _ (.tail _ (.tail _ (.tail _ (.tail _ (.tail _ (.tail _ (.head _)))))))
  have g6 := hG _ (.tail _ (.tail _ (.tail _ (.tail _ (.tail _ (.tail _ (.tail _ (.head _))))))))
  have g7 := hG _ (.tail _ (.tail _ (.tail _ (.tail _ (.tail _ (.tail _ (.tail _ (.tail _ (.head _)))))))))
  have N9 : News h₀ L h' [(L + 1 + 1 + 1, oR), (G, oG), (D, lst ysD), (S, oS), (x, instObj 79 dx), (dx, dictOf (ignEs w S D G t9 t8 ti) 3), (L + 1 + 1, oF), (L + 1, oM)] := fun p hp => N9 p (by simp only [List.mem_cons, List.not_mem_nil, or_false] at hp ⊢; rcases hp with h | h | h | h | h | h | h | h <;> simp [h])
  have hcR : ∀ p ∈ [(G, oG), (D, lst ysD), (S, oS), (x, instObj 79 dx), (dx, dictOf (ignEs w S D G t9 t8 ti) 3), (L + 1 + 1, oF), (L + 1, oM)], p.1 ≠ L + 1 + 1 + 1 := fun p hp => by
    simp only [List.mem_cons, List.not_mem_nil, or_false] at hp
    rcases hp with rfl | rfl | rfl | rfl | rfl | rfl | rfl
    · exact g5.symm
    · exact Ne.symm r1
    · exact Ne.symm r2
    · exact Ne.symm r3
    · exact Ne.symm r4
    · exact Nat.ne_of_lt (Nat.lt_succ_self _)
    · exact Nat.ne_of_lt (Nat.lt_succ_of_lt (Nat.lt_succ_self _))
  k_dflt (refine' storeX_C ?F ?N ?c ?U ?d ?_ ?a ?b; (case a => rfl); (case b => rfl); (case F => exact F9); (case N => exact N9); (case c => rfl); (case U => exact UpdF.head hcR); (case d => exact dR); k_whole)
  intro hh o2 F2 N2 d2
  refine ret x dx S D G oS oG ysD o2 hh _ t9 t8 ti t6 (by simp only [know_pt h1, know_pt h2] at F2; exact F2) (fun p hp => N2 p (by simp only [List.mem_cons, List.not_mem_nil, or_false] at hp ⊢; rcases hp with h | h | h | h | h | h | h | h <;> simp [h])) d2 ⟨g1, g2, g3, g4, g5, g6, g7⟩ hSS hys hDG lo ⟨hdd.2.1, hdd.2.2.1, hdd.2.2.2.1, hdd.2.2.2.2⟩
end
end Mine
open PySem PySem.W PyProof.Rows
set_option Elab.async false
namespace Mine
theorem slot_setit_next : Slot "set_iterator" "__next__" "set_iterator.__next__" :=
  .of (owner := "set_iterator") (n := "__next__") (by rw [typeLookup_type, builtinLookup_eq_fast]; kernel_rfl) (by decide +kernel) (by decide +kernel) (by decide +kernel)
    (by first | exact .inl (by decide +kernel) | exact .inr (by decide +kernel)) (by rw [isSubtype_type]; kernel_rfl)
theorem entry_setit_next : entryFor table "set_iterator.__next__" = some Builtin.«set_iterator.__next__» := entryFor_of_tree (by kernel_rfl)
theorem args_setit_next (a : Value) : argsOk "set_iterator.__next__" ⟨[a], []⟩ := by unfold argsOk; kernel_rfl
/-! an order is a permutation -/
theorem erase_perm {α : Type} : ∀ {l : List α} {i : Nat} (h : i < l.length), List.Perm (l[i] :: l.eraseIdx i) l
  | [], i, h => by simp at h
  | a :: r, 0, h => by simp
  | a :: r, i + 1, h => by
    have ih := erase_perm (l := r) (i := i) (by simpa using h)
    simp only [List.getElem_cons_succ, List.eraseIdx_cons_succ]
    exact (List.Perm.swap _ _ _).trans (ih.cons _)
theorem pick_go {α : Type} (next : Nat → Nat) : ∀ (n k : Nat) (l : List α) (out : Array α), l.length = n → List.Perm (pickOrder.go next n k l out).toList (out.toList ++ l)
  | 0, k, l, out, h => by
    rw [List.length_eq_zero_iff.mp h]
    simp [pickOrder.go]
  | n + 1, k, l, out, h => by
    have hl : next k % l.length < l.length := Nat.mod_lt _ (by omega)
    unfold pickOrder.go
    rw [List.getElem?_eq_getElem hl]
    dsimp only
    refine (pick_go next n (k + 1) _ _ (by rw [List.length_eraseIdx, if_pos hl]; omega)).trans ?_
    rw [Array.toList_push, List.append_assoc]
    refine List.Perm.append_left _ ?_
    exact (erase_perm hl)
theorem pick_perm {α : Type} (next : Nat → Nat) (xs : Array α) : List.Perm (pickOrder next xs).toList xs.toList := by
  have := pick_go next xs.size 0 xs.toList #[] (by simp)
  simpa [pickOrder] using this
theorem entry_set_iter : entryFor table "set.__iter__" = some Builtin.«frozenset.__iter__» :=
  entryFor_alias (id' := "frozenset.__iter__") (by kernel_rfl) rfl (by decide +kernel) (by kernel_rfl)
section
variable {M : Model} {A : Around} {E : Value → Shared → Prop} {s : Shared}
theorem wpAny_choose {src : Source} {n : Nat} {Q : Nat → Shared → Prop} (hn : n ≠ 0) (h : ∀ i d, i < n → Q i { s with drawn := d }) : wpAny M A (choose src n) Q E s := fun Γ p _ => by
  unfold choose
  rw [Sem.wp_choose]
  exact ⟨hn, h _ _ (Nat.mod_lt _ (Nat.pos_of_ne_zero hn))⟩
theorem wpAny_draw {α : Type} : ∀ (n : Nat) (xs : List α) (s : Shared) {Q : List α → Shared → Prop}, xs.length = n → (∀ ys d, List.Perm ys xs → Q ys { s with drawn := d }) → wpAny M A (drawOrder n xs) Q E s
  | 0, xs, s, Q, hn, h => by
    unfold drawOrder
    exact wpAny_pure (h [] s.drawn (by rw [List.length_eq_zero_iff.mp hn]))
  | n + 1, xs, s, Q, hn, h => by
    cases xs with
    | nil => simp at hn
    | cons x r =>
      unfold drawOrder
      refine wpAny_bind (wpAny_choose (by simp) fun i d hi => ?_)
      rw [List.getElem?_eq_getElem hi]
      dsimp only
      refine wpAny_bind (wpAny_draw n _ _ (by rw [List.length_eraseIdx, if_pos hi]; simp at hn ⊢; omega) fun ys d' hp => ?_)
      exact wpAny_pure (h _ d' ((hp.cons _).trans (erase_perm hi)))
end
/-- the iterator I stands at the i-th of the set's texts, vs, in the order that was drawn -/
noncomputable def SetIt (fr : Addr → Prop) (w : World) (h : Heap) (S I : Addr) (es : Array (Int × Value)) (ep : Nat) (t : SetTable) (vs : List Value) (i : Nat) : Prop :=
  (∃ oS, h.get? S = some oS ∧ oS.data = .set es ep t) ∧ ∃ oI first, h.get? I = some oI ∧ oI.cls = .type "set_iterator" ∧ oI.data = .fields #[first, .int i 0, .ref S, .int es.size 0, .int ep 0] ∧
    ((w.params.followText "set-order" = true ∧ first = .int 0 0 ∧ vs = (pickOrder (w.params.setOrder S ep) es).toList.map (·.2)) ∨
      (w.params.followText "set-order" = false ∧ ∃ (T : Addr) (ps : List Nat), first = .ref T ∧ T ≠ I ∧ fr T ∧ (∃ oT n, h.get? T = some oT ∧ oT.data = .seq (ps.map fun p : Nat => rawInt p).toArray n) ∧ (∀ p ∈ ps, p < es.size) ∧ vs = ps.map fun p => (es.getD p default).2))
theorem SetIt.keep {fr : Addr → Prop} {w : World} {h h' : Heap} {S I : Addr} {es : Array (Int × Value)} {ep : Nat} {t : SetTable} {vs : List Value} {i : Nat} (x : SetIt fr w h S I es ep t vs i) (k : ∀ b o, h.get? b = some o → h'.get? b = some o) : SetIt fr w h' S I es ep t vs i := by
  obtain ⟨⟨oS, hS, dS⟩, oI, first, hI, cI, dI, hx⟩ := x
  refine ⟨⟨oS, k _ _ hS, dS⟩, oI, first, k _ _ hI, cI, dI, hx.imp id ?_⟩
  rintro ⟨hb, T, ps, e, hT, hf, ⟨oT, n, ho, hd⟩, r⟩
  exact ⟨hb, T, ps, e, hT, hf, ⟨oT, n, k _ _ ho, hd⟩, r⟩
section
variable {prog : Program} {w : World} {A : Around} {E : Value → Shared → Prop} {s : Shared}
theorem iter_set {S : Addr} {o : Obj} {es : Array (Int × Value)} {ep : Nat} {t : SetTable} {Q : Value → Shared → Prop} (ho : s.heap.get? S = some o) (hc : o.cls = .type "set") (hd : o.data = .set es ep t) (hf : t.fits es.size = true) (hsz : 2 ≤ es.size) (hb : es.size < scanBound) (hp : t.plain = false)
    (h : ∀ h' d I vs, (∀ b ob, s.heap.get? b = some ob → h'.get? b = some ob) → s.heap.get? I = none → SetIt (fun T => s.heap.get? T = none) w h' S I es ep t vs 0 → List.Perm vs (es.toList.map (·.2)) → Q (.ref I) { s with heap := h', drawn := d }) :
    wpAny (model prog w) A (pyIter (.ref S)) Q E s := by
  have hT : s.TypeIs (.ref S) "set" := ⟨o, ho, hc⟩
  refine wpAny_pyIter_slot hT PySem.F.slot_set_iter (wpAny_call_entry PySem.F.slot_set_iter hT entry_set_iter ?_ (PySem.F.args_set_iter_1 _))
  unfold Builtin.«frozenset.__iter__»
  refine wpAny_bind (wpAny_of_eq (show Builtin.Frozenset.slot0 "__iter__" ⟨[.ref S], []⟩ = pure S from rfl) ?_)
  unfold Builtin.Frozenset.sizeOf setDrawn
  refine wpAny_bind (wpAny_bind (wpAny_setEntries_of ho hd hf (wpAny_pure ?_)))
  have fin : ∀ (s₁ : Shared) (first : Value) (vs : List Value), (∀ b ob, s.heap.get? b = some ob → s₁.heap.get? b = some ob) → (∃ h d, s₁ = { s with heap := h, drawn := d }) → List.Perm vs (es.toList.map (·.2)) →
      ((w.params.followText "set-order" = true ∧ first = .int 0 0 ∧ vs = (pickOrder (w.params.setOrder S ep) es).toList.map (·.2)) ∨
      (w.params.followText "set-order" = false ∧ ∃ (T : Addr) (ps : List Nat), first = .ref T ∧ T < s₁.heap.objs.size ∧ s.heap.get? T = none ∧ (∃ oT n, s₁.heap.get? T = some oT ∧ oT.data = .seq (ps.map fun p : Nat => rawInt p).toArray n) ∧ (∀ p ∈ ps, p < es.size) ∧ vs = ps.map fun p => (es.getD p default).2)) →
      wpAny (model prog w) A.in1 (do ret (← newFields "set_iterator" [first, rawInt 0, .ref S, rawInt es.size, rawInt (← setEpoch S)]))
        (fun fin s' => ∃ it, fin = Fin.done (Flow.ret it) ∧ ∃ T' r, s'.TypeIs it T' ∧ typeLookup (.type T') "__next__" = pure (some r) ∧ Q it s') E s₁ := by
    rintro s₁ first vs hk ⟨h1, d1, rfl⟩ hperm hx
    have ho1 := hk S o ho
    refine wpAny_bind (wpAny_setEpoch_of ho1 hd hf ?_)
    unfold newFields
    refine wpAny_bind (wpAny_newObj_type (wpAny_pure ⟨_, rfl, "set_iterator", _, ⟨_, Heap.get?_push_size _ rfl, rfl⟩, slot_setit_next.lookup, ?_⟩))
    refine h _ d1 h1.objs.size vs (fun b ob e => Heap.get?_push_of_some _ (hk b ob e)) ?_ ?_ hperm
    · cases q : s.heap.get? h1.objs.size with
      | none => rfl
      | some ob => exact absurd (Heap.lt_size (hk _ _ q)) (Nat.lt_irrefl _)
    · refine ⟨⟨o, Heap.get?_push_of_some _ ho1, hd⟩, _, first, Heap.get?_push_size _ rfl, rfl, rfl, hx.imp id ?_⟩
      rintro ⟨hb, T, ps, e, hT, hf9, ⟨oT, n, hoT, hdT⟩, r⟩
      exact ⟨hb, T, ps, e, Nat.ne_of_lt hT, hf9, ⟨oT, n, Heap.get?_push_of_some _ hoT, hdT⟩, r⟩
  refine wpAny_bind ?_
  refine wpAny_bind (wpAny_setState_of ho hd hf ?_)
  unfold setsByText
  refine wpAny_bind (wpAny_bind (wpAny_askSetting (wpAny_pure ?_)))
  show wpAny _ _ (pure (!(w.params.followText "set-order") && (!t.plain && decide (es.size > 1)))) _ _ _
  rw [hp, show decide (es.size > 1) = true from decide_eq_true (by omega)]
  refine wpAny_pure ?_
  cases hbt : w.params.followText "set-order" with
  | true =>
    simp only [Bool.not_true, Bool.false_and, Bool.false_eq_true, if_false]
    refine wpAny_bind (wpAny_pure ?_)
    exact fin s (.int 0 0) _ (fun _ _ e => e) ⟨s.heap, s.drawn, rfl⟩ ((pick_perm (w.params.setOrder S ep) es).map _) (.inl ⟨hbt, rfl, rfl⟩)
  | false =>
    simp only [Bool.not_false, Bool.true_and, Bool.and_self, if_true]
    refine wpAny_bind (wpAny_draw es.size (List.range es.size) s (List.length_range) fun ps d hps => ?_)
    unfold newTuple
    have hlen : ps.length = es.size := by rw [hps.length_eq, List.length_range]
    refine wpAny_bind (wpAny_newObj_type ?_ ?_)
    · refine fin { s with heap := _, drawn := d } _ (ps.map fun p => (es.getD p default).2) (fun b ob e => Heap.get?_push_of_some _ e) ⟨_, d, rfl⟩ ?_ (.inr ⟨hbt, s.heap.objs.size, ps, rfl, ?_, ?_, ⟨_, 0, Heap.get?_push_size _ rfl, rfl⟩, fun p hp => ?_, rfl⟩)
      · refine (hps.map _).trans ?_
        rw [show es.toList.map (·.2) = (List.range es.size).map (fun p => (es.getD p default).2) from ?_]
        apply List.ext_getElem
        · simp
        · intro i h1 h2
          simp at h1 h2
          simp [Array.getD, h1]
      · show s.heap.objs.size < (s.heap.push _).objs.size
        rw [Heap.size_push]; exact Nat.lt_succ_self _
      · cases q : s.heap.get? s.heap.objs.size with
        | none => rfl
        | some ob => exact absurd (Heap.lt_size q) (Nat.lt_irrefl _)
      · simpa using (hps.mem_iff.mp hp)
    · show (List.map (fun i : Nat => rawInt i) ps).toArray.size ≤ sizeLine
      rw [List.size_toArray, List.length_map, hlen]
      exact fits_of_scanBound hb

theorem setFieldS {M : Model} {a : Addr} {o : Obj} {fs : Array Value} {i : Nat} {x : Value} {Q : Unit → Shared → Prop} (ho : s.heap.get? a = some o) (hd : o.data = .fields fs) (hi : i < fs.size)
    (h : ∀ h' o', Heap.SameBut a s.heap h' → h'.get? a = some o' → o'.cls = o.cls → o'.data = .fields (fs.setIfInBounds i x) → Q () { s with heap := h' }) : wpAny M A (setField (.ref a) i x) Q E s :=
  wpAny_setField ho hd hi (h _ _ (Heap.SameBut.update ..) (Heap.get?_update_self _ ho (Obj.isFreed_of_fields (Obj.data_mapFields hd _))) (Obj.cls_mapFields ..) (Obj.data_mapFields hd _))
theorem rawInt_at {ps : List Nat} {i p : Nat} (h : ps[i]? = some p) : (ps.map fun p : Nat => rawInt p).toArray[i]? = some (.int (p : Int) 0) := by
  simp [h, rawInt]
theorem setNext_text {S : Addr} {o : Obj} {es : Array (Int × Value)} {ep : Nat} {t : SetTable} {i : Nat} {Q : Option (Value × Nat) → Shared → Prop} (hbt : w.params.followText "set-order" = true) (ho : s.heap.get? S = some o) (hd : o.data = .set es ep t) (hf : t.fits es.size = true)
    (h : Q (((pickOrder (w.params.setOrder S ep) es)[i]?).map fun e => (e.2, 0)) s) : wpAny (model prog w) A (setNext S (Int.toNat 0) ((i : Int)).toNat ((ep : Int)).toNat) Q E s := by
  have ha : ∀ {Q' : Bool → Shared → Prop}, Q' true s → wpAny (model prog w) A setsByText Q' E s := by
    intro Q' hq
    unfold setsByText
    refine wpAny_bind (wpAny_askSetting (wpAny_pure ?_))
    show Q' (w.params.followText "set-order") s
    rw [hbt]; exact hq
  unfold setNext
  refine wpAny_bind (wpAny_setState_of ho hd hf ?_)
  dsimp only
  refine wpAny_bind (ha ?_)
  simp only [if_true, Int.toNat_natCast, bne_self_eq_false, Bool.false_eq_true, if_false]
  unfold setWalk
  refine wpAny_bind (wpAny_bind (wpAny_setState_of ho hd hf ?_))
  dsimp only
  refine wpAny_bind (ha ?_)
  simp only [if_true]
  refine wpAny_bind (wpAny_askSetting (wpAny_pure (wpAny_pure ?_)))
  exact h
theorem text_item {S : Addr} {es : Array (Int × Value)} {ep i : Nat} {v : Value} {vs : List Value} (hvs : vs = (pickOrder (w.params.setOrder S ep) es).toList.map (·.2)) (hv : vs[i]? = some v) : ((pickOrder (w.params.setOrder S ep) es)[i]?).map (fun e => (e.2, 0)) = some (v, 0) := by
  rw [hvs, List.getElem?_map, Array.getElem?_toList] at hv
  cases q : (pickOrder (w.params.setOrder S ep) es)[i]? with
  | none => rw [q] at hv; cases hv
  | some e => rw [q] at hv; cases hv; rfl
theorem text_none {S : Addr} {es : Array (Int × Value)} {ep i : Nat} {vs : List Value} (hvs : vs = (pickOrder (w.params.setOrder S ep) es).toList.map (·.2)) (hv : vs[i]? = none) : ((pickOrder (w.params.setOrder S ep) es)[i]?).map (fun e => (e.2, 0)) = none := by
  rw [hvs, List.getElem?_map, Array.getElem?_toList] at hv
  cases q : (pickOrder (w.params.setOrder S ep) es)[i]? with
  | none => rfl
  | some e => rw [q] at hv; cases hv
theorem stop_end {A' : Around} {s' : Shared} {Q : Option Value → Shared → Prop} (hh : A'.handled = none) (hQ : ∀ h', (∀ b ob, s'.heap.get? b = some ob → h'.get? b = some ob) → Q none { s' with heap := h' }) :
    wpAny (model prog w) A' (do let e ← newExc (.type "StopIteration") []; raiseNew e : Sem Fin) (fun fin s' => ∃ v, fin = Fin.done (Flow.ret v) ∧ wpAny (model prog w) A (pure (some v)) Q E s')
      (fun e s' => wpAny (model prog w) A (do let b ← isInstance e (.type "StopIteration"); if b = true then pure none else throw e) Q E s') s' := by
  refine wpAny_bind ?_
  simp only [newExc, newTuple]
  refine wpAny_bind (wpAny_newObj_type ?_ (by size_fits))
  refine wpAny_bind (m := firstArgMember _ _) (wpAny_of_eq (a := Value.none) (by first | rfl | (simp only [firstArgMember]; rfl)) ?_)
  refine wpAny_newObj_type ?_ (by size_fits)
  simp only [raiseNew]
  refine wpAny_bind (wpAny_handled ?_)
  rw [hh]
  refine wpAny_bind (wpAny_pure (wpAny_throw ?_))
  refine wpAny_bind (wpAny_isInstance (T := "StopIteration") (b := true) ⟨_, Heap.get?_push_size _ rfl, rfl⟩ isSubtype_stop ?_)
  exact wpAny_pure (hQ _ fun b ob e => Heap.get?_push_of_some _ (Heap.get?_push_of_some _ e))
theorem next_set_item {fr : Addr → Prop} {S I : Addr} {es : Array (Int × Value)} {ep : Nat} {t : SetTable} {vs : List Value} {i : Nat} {v : Value} {Q : Option Value → Shared → Prop} (hx : SetIt fr w s.heap S I es ep t vs i) (hf : t.fits es.size = true) (hSI : S ≠ I)
    (hv : vs[i]? = some v) (hQ : ∀ h', Heap.SameBut I s.heap h' → SetIt fr w h' S I es ep t vs (i + 1) → Q (some v) { s with heap := h' }) : wpAny (model prog w) A (pyNext (.ref I)) Q E s := by
  obtain ⟨⟨oS, hS, dS⟩, oI, first, hI, cI, dI, hx⟩ := hx
  have hT : s.TypeIs (.ref I) "set_iterator" := ⟨oI, hI, cI⟩
  unfold pyNext
  refine wpAny_bind (wpAny_attempt (wpAny_callSpecial?_slot (name := Str.ofString "__next__") hT slot_setit_next (wpAny_call_entry slot_setit_next hT entry_setit_next ?_ (args_setit_next _))))
  unfold Builtin.«set_iterator.__next__»
  refine wpAny_bind (wpAny_of_eq (show slotArgs "__next__" 0 ⟨[.ref I], []⟩ = pure (.ref I, []) from rfl) ?_)
  refine wpAny_bind (wpAny_fieldsOf hI dI ?_)
  dsimp only
  refine wpAny_bind (wpAny_setEntries_of hS dS hf ?_)
  rw [if_neg (by simp)]
  rcases hx with ⟨hbt, rfl, hvs⟩ | ⟨hbt, T, ps, rfl, hTI, hfr, ⟨oT, n, hoT, hdT⟩, hps, hvs⟩
  · dsimp only
    refine wpAny_bind (setNext_text hbt hS dS hf ?_)
    rw [text_item hvs hv]
    dsimp only
    refine wpAny_bind (setFieldS hI dI (by simp) fun h1 o1 hs1 ho1 hc1 hd1 => ?_)
    refine wpAny_bind (setFieldS (s := { s with heap := h1 }) ho1 hd1 (by simp) fun h2 o2 hs2 ho2 hc2 hd2 => ?_)
    refine wpAny_pure ⟨_, rfl, wpAny_pure (hQ h2 (hs1.trans hs2) ⟨⟨oS, hs2.extBut S _ hSI (hs1.extBut S _ hSI hS), dS⟩, o2, .int 0 0, ho2, by rw [hc2, hc1, cI], ?_, .inl ⟨hbt, rfl, hvs⟩⟩)⟩
    rw [hd2]; simp [rawInt]
  · dsimp only
    refine wpAny_bind (wpAny_seqItems hoT hdT ?_)
    dsimp only
    rw [hvs, List.getElem?_map] at hv
    obtain ⟨p, hp, hpv⟩ := Option.map_eq_some_iff.mp hv
    rw [Int.toNat_natCast, rawInt_at hp]
    dsimp only
    have hpl : p < es.size := hps p (List.mem_of_getElem? hp)
    unfold setNextDrawn
    refine wpAny_bind (wpAny_bind (wpAny_setState_of hS dS hf ?_))
    simp only [Int.toNat_natCast, bne_self_eq_false, Bool.false_eq_true, if_false]
    rw [Array.getElem?_eq_getElem hpl]
    dsimp only
    refine wpAny_pure ?_
    refine wpAny_bind (setFieldS hI dI (by simp) fun h1 o1 hs1 ho1 hc1 hd1 => ?_)
    have hve : es[p].2 = v := by rw [← hpv]; simp [Array.getD, hpl]
    rw [hve]
    refine wpAny_pure ⟨_, rfl, wpAny_pure (hQ h1 hs1 ⟨⟨oS, hs1.extBut S _ hSI hS, dS⟩, o1, .ref T, ho1, by rw [hc1, cI], ?_, .inr ⟨hbt, T, ps, rfl, hTI, hfr, ⟨oT, n, hs1.extBut T _ hTI hoT, hdT⟩, hps, hvs⟩⟩)⟩
    rw [hd1]; simp [rawInt]
theorem next_set_end {fr : Addr → Prop} {S I : Addr} {es : Array (Int × Value)} {ep : Nat} {t : SetTable} {vs : List Value} {i : Nat} {Q : Option Value → Shared → Prop} (hh : A.handled = none) (hx : SetIt fr w s.heap S I es ep t vs i) (hf : t.fits es.size = true)
    (hv : vs[i]? = none) (hQ : ∀ h', (∀ b ob, b ≠ I → s.heap.get? b = some ob → h'.get? b = some ob) → Q none { s with heap := h' }) : wpAny (model prog w) A (pyNext (.ref I)) Q E s := by
  obtain ⟨⟨oS, hS, dS⟩, oI, first, hI, cI, dI, hx⟩ := hx
  have hT : s.TypeIs (.ref I) "set_iterator" := ⟨oI, hI, cI⟩
  unfold pyNext
  refine wpAny_bind (wpAny_attempt (wpAny_callSpecial?_slot (name := Str.ofString "__next__") hT slot_setit_next (wpAny_call_entry slot_setit_next hT entry_setit_next ?_ (args_setit_next _))))
  unfold Builtin.«set_iterator.__next__»
  refine wpAny_bind (wpAny_of_eq (show slotArgs "__next__" 0 ⟨[.ref I], []⟩ = pure (.ref I, []) from rfl) ?_)
  refine wpAny_bind (wpAny_fieldsOf hI dI ?_)
  dsimp only
  refine wpAny_bind (wpAny_setEntries_of hS dS hf ?_)
  rw [if_neg (by simp)]
  rcases hx with ⟨hbt, rfl, hvs⟩ | ⟨hbt, T, ps, rfl, hTI, hfr, ⟨oT, n, hoT, hdT⟩, hps, hvs⟩
  · dsimp only
    refine wpAny_bind (setNext_text hbt hS dS hf ?_)
    rw [text_none hvs hv]
    dsimp only
    refine wpAny_bind (setFieldS hI dI (by simp) fun h1 o1 hs1 ho1 hc1 hd1 => ?_)
    exact stop_end hh fun h' hk => hQ h' fun b ob hb e => hk b ob (hs1.extBut b _ hb e)
  · dsimp only
    refine wpAny_bind (wpAny_seqItems hoT hdT ?_)
    dsimp only
    rw [hvs, List.getElem?_map, Option.map_eq_none_iff] at hv
    rw [Int.toNat_natCast, show (ps.map fun p : Nat => rawInt p).toArray[i]? = none from by simp [hv]]
    dsimp only
    refine wpAny_bind (setFieldS hI dI (by simp) fun h1 o1 hs1 ho1 hc1 hd1 => ?_)
    refine wpAny_bind (setFieldS (s := { s with heap := h1 }) ho1 hd1 (by simp) fun h2 o2 hs2 ho2 hc2 hd2 => ?_)
    exact stop_end hh fun h' hk => hQ h' fun b ob hb e => hk b ob (hs2.extBut b _ hb (hs1.extBut b _ hb e))
end
end Mine
open PySem PySem.W PyProof.Rows
set_option Elab.async false
namespace Mine
theorem two_le_of {α : Type} {l : List α} {a b : α} (ha : a ∈ l) (hb : b ∈ l) (h : a ≠ b) : 2 ≤ l.length := by
  cases l with
  | nil => cases ha
  | cons c r =>
    cases r with
    | nil => exact absurd ((List.mem_singleton.mp ha).trans (List.mem_singleton.mp hb).symm) h
    | cons d r => simp only [List.length_cons]; omega
section
variable {prog : Program} {w : World} {A : Around} {E : Value → Shared → Prop} {s : Shared} {env : Env} {h₀ : Heap} {target : Expr} {body : List Stmt} {Q : Flow → Shared → Prop}
noncomputable def SPost (h₀ : Heap) (L : Addr) (nx tl : List (Addr × Obj)) (R : (Str → Option Value) → Prop) (P : Prop) (s : Shared) (Q : Flow → Shared → Prop) (f : Flow) (s₄ : Shared) : Prop :=
  match f with
  | .ret v => Q (.ret v) s₄
  | .next => P ∧ ∃ h' tk' d' m', s₄ = { s with heap := h', toks := tk', drawn := d' } ∧ R m' ∧ Fr h₀ L h' m' ∧ News h₀ L h' (nx ++ tl)
  | _ => False
theorem for_set {S : Addr} {o : Obj} {xs : List Str} {m₀ : Str → Option Value} {nx : List (Addr × Obj)} (ho : h₀.get? S = some o) (hS : SetS prog w o xs) (h2 : ∃ a b, a ∈ xs ∧ b ∈ xs ∧ a ≠ b) (hb : xs.length < scanBound) (hh : A.handled = none) (ht : isNameT target = true)
    (R : (Str → Option Value) → Prop) (h0 : R m₀) (F : Fr h₀ env.locals s.heap m₀) (N : News h₀ env.locals s.heap nx) (P : Str → Prop)
    (turn : ∀ x t m h tk d tl, x ∈ xs → R m → Fr h₀ env.locals h m → News h₀ env.locals h (nx ++ tl) → (∀ p ∈ tl, AllNe p.1 nx) →
      wpAny (model prog w) A (assign target env (.str x t)) (fun _ s₃ => wpAny (model prog w) A (execs body env) (SPost h₀ env.locals nx tl R (P x) s Q) (fun _ _ => False) s₃) (fun _ _ => False) { s with heap := h, toks := tk, drawn := d })
    (done : ∀ m h tk d, (∀ x ∈ xs, P x) → R m → Fr h₀ env.locals h m → News h₀ env.locals h nx → Q .next { s with heap := h, toks := tk, drawn := d }) :
    wpAny (model prog w) A (pyIter (.ref S)) (fun it s₂ => codeAny (model prog w) A (.forLoop target it body [] env) (fun r s' => match r with | .ok f => Q f s' | .error e => cameBackBy (model prog w) A env E e s') s₂) E s := by
  obtain ⟨⟨hc, _, _⟩, es, ep, t, hd, hel, hmem, hf, hz, hpl⟩ := id hS
  have hsz : 2 ≤ es.size := by
    obtain ⟨a, b, ha, hb', hab⟩ := h2
    obtain ⟨e1, he1, q1⟩ := (hmem a).mp ha
    obtain ⟨e2, he2, q2⟩ := (hmem b).mp hb'
    rw [← Array.length_toList]
    exact two_le_of he1 he2 (fun e => by subst e; exact hab (Value.isStrOf_inj _ _ _ q1 q2))
  have hp := hpl (by omega)
  refine iter_set (F.keep _ _ ho) hc hd hf hsz (by omega) hp fun h₁ d₁ I vs hk₁ hI hIt hperm => ?_
  have hvs : ∀ v ∈ vs, ∃ x t, v = .str x t ∧ x ∈ xs := fun v hv => by
    obtain ⟨e, he, rfl⟩ := List.mem_map.mp (hperm.mem_iff.mp hv)
    obtain ⟨⟨k, hk, _⟩, _⟩ := hel e he
    obtain ⟨t, ht⟩ := Value.isStrOf_shape hk
    exact ⟨k, t, ht, (hmem k).mpr ⟨e, he, hk⟩⟩
  have hall : ∀ x ∈ xs, ∃ t, Value.str x t ∈ vs := fun x hx => by
    obtain ⟨e, he, q⟩ := (hmem x).mp hx
    obtain ⟨t, ht⟩ := Value.isStrOf_shape q
    exact ⟨t, hperm.mem_iff.mpr (List.mem_map.mpr ⟨e, he, ht⟩)⟩
  have hSI : S ≠ I := fun e => by rw [← e, F.keep _ _ ho] at hI; cases hI
  -- the iterator and the order's tuple stand in a ledger of their own
  have new0 : ∀ a, s.heap.get? a = none → a ≠ env.locals ∧ h₀.get? a = none ∧ AllNe a nx := fun a ha => by
    refine ⟨fun e => ?_, ?_, allNe_of fun p hp e => ?_⟩
    · obtain ⟨oL, _, _, hL, _⟩ := F.ns
      rw [e, hL] at ha; cases ha
    · cases q : h₀.get? a with
      | none => rfl
      | some o' => rw [F.keep _ _ q] at ha; cases ha
    · rw [← e, (N p hp).1] at ha; cases ha
  obtain ⟨hI1, hI2, hI3⟩ := new0 I hI
  refine codeAny_forLoop_any
    (fun k s' => ∃ h' tk' d' m' i, s' = { s with heap := h', toks := tk', drawn := d' } ∧ SetIt (fun T => s.heap.get? T = none) w h' S I es ep t vs i ∧ Fr h₀ env.locals h' m' ∧ News h₀ env.locals h' nx ∧ R m' ∧ i ≤ vs.length ∧ (∀ j x t, j < i → vs[j]? = some (.str x t) → P x) ∧ k = vs.length + 1 - i) ?_ (vs.length + 1)
    ⟨h₁, s.toks, d₁, m₀, 0, rfl, hIt, F.keeps hk₁, N.grown hk₁, h0, Nat.zero_le _, fun j x t hj => absurd hj (Nat.not_lt_zero _), rfl⟩
  rintro k s' ⟨h', tk', d', m', i, rfl, hIt', F', N', hR, hi, hP, rfl⟩
  by_cases hlt : i < vs.length
  · obtain ⟨x, tx, hx, hxs⟩ := hvs vs[i] (List.getElem_mem hlt)
    refine next_set_item (v := .str x tx) hIt' hf hSI (by rw [List.getElem?_eq_getElem hlt, hx]) fun h₂ hs₂ hIt₂ => ?_
    have F₂ : Fr h₀ env.locals h₂ m' := ⟨F'.ns.at' fun o e => hs₂.extBut _ o (Ne.symm hI1) e, fun b o e => hs₂.extBut b o (fun q => by rw [q, hI2] at e; cases e) (F'.keep b o e), F'.above⟩
    have N₂ : News h₀ env.locals h₂ nx := fun p hp => ⟨hs₂.extBut _ _ (AllNe.ne hI3 p hp) (N' p hp).1, (N' p hp).2⟩
    obtain ⟨⟨oS, hoS, dS⟩, oI, first, hoI, cI, dI, hx'⟩ := id hIt₂
    have tail : ∃ tl : List (Addr × Obj), News h₀ env.locals h₂ (nx ++ tl) ∧ (∀ p ∈ tl, AllNe p.1 nx) ∧ ∀ h₃ m₃, Fr h₀ env.locals h₃ m₃ → News h₀ env.locals h₃ (nx ++ tl) → SetIt (fun T => s.heap.get? T = none) w h₃ S I es ep t vs (i + 1) := by
      have hSk : ∀ h₃ m₃, Fr h₀ env.locals h₃ m₃ → ∃ oS, h₃.get? S = some oS ∧ oS.data = .set es ep t := fun h₃ m₃ F₃ => ⟨o, F₃.keep _ _ ho, hd⟩
      rcases hx' with ⟨hbt, e1, e2⟩ | ⟨hbt, T, ps, e1, hTI, hT, ⟨oT, n, hoT, hdT⟩, e3, e4⟩
      · refine ⟨[(I, oI)], fun p hp => ?_, fun p hp => ?_, fun h₃ m₃ F₃ N₃ => ⟨hSk h₃ m₃ F₃, oI, first, (N₃ (I, oI) (List.mem_append_right _ (.head _))).1, cI, dI, .inl ⟨hbt, e1, e2⟩⟩⟩
        · rcases List.mem_append.mp hp with hp | hp
          · exact N₂ p hp
          · rw [List.mem_singleton.mp hp]; exact ⟨hoI, hI1, hI2⟩
        · rw [List.mem_singleton.mp hp]; exact hI3
      · obtain ⟨hT1, hT2, hT3⟩ := new0 T hT
        refine ⟨[(I, oI), (T, oT)], fun p hp => ?_, fun p hp => ?_, fun h₃ m₃ F₃ N₃ => ⟨hSk h₃ m₃ F₃, oI, first, (N₃ (I, oI) (List.mem_append_right _ (.head _))).1, cI, dI, .inr ⟨hbt, T, ps, e1, hTI, hT, ⟨oT, n, (N₃ (T, oT) (List.mem_append_right _ (.tail _ (.head _)))).1, hdT⟩, e3, e4⟩⟩⟩
        · rcases List.mem_append.mp hp with hp | hp
          · exact N₂ p hp
          · rcases List.mem_cons.mp hp with rfl | hp
            · exact ⟨hoI, hI1, hI2⟩
            · rw [List.mem_singleton.mp hp]; exact ⟨hoT, hT1, hT2⟩
        · rcases List.mem_cons.mp hp with rfl | hp
          · exact hI3
          · rw [List.mem_singleton.mp hp]; exact hT3
    obtain ⟨tl, Nt, hne, back⟩ := tail
    have hgo : ∀ {Q' : Unit → Shared → Prop} {E' : Value → Shared → Prop} {s' : Shared} {v' : Value}, Q' () s' → wpAny (model prog w) A (letOwnedTupleGo target (.ref I) v') Q' E' s' := by
      intro Q' E' s' v' hq
      cases target <;> simp [isNameT] at ht
      exact wpAny_pure hq
    refine hgo ?_
    refine wpAny_mono (turn x tx m' h₂ tk' d' tl hxs hR F₂ Nt hne) (fun _ s₂ h₂' => wpAny_mono h₂' (fun f s₃ h₃ => ?_) fun _ _ h => h.elim) fun _ _ h => h.elim
    cases f with
    | ret v => exact h₃
    | brk => exact h₃.elim
    | cont => exact h₃.elim
    | next =>
      obtain ⟨hPx, h₃, tk₃, d₃, m₃, rfl, hR₃, F₃, N₃⟩ := h₃
      refine ⟨vs.length + 1 - (i + 1), by omega, h₃, tk₃, d₃, m₃, i + 1, rfl, back h₃ m₃ F₃ N₃, F₃, fun p hp => N₃ p (List.mem_append_left _ hp), hR₃, hlt, fun j y ty hj hy => ?_, rfl⟩
      rcases Nat.lt_succ_iff_lt_or_eq.mp hj with hj | rfl
      · exact hP j y ty hj hy
      · rw [List.getElem?_eq_getElem hlt, hx] at hy
        injection hy with hy
        injection hy with hy
        rw [← hy]; exact hPx
  · have hin : i = vs.length := by omega
    subst hin
    refine next_set_end hh hIt' hf (by simp) fun h₂ hk₂ => wpAny_execs_nil ?_
    refine done m' h₂ tk' d' (fun x hx => ?_) hR ⟨F'.ns.at' fun o e => hk₂ _ o (Ne.symm hI1) e, fun b o e => hk₂ b o (fun q => by rw [q, hI2] at e; cases e) (F'.keep b o e), F'.above⟩ (fun p hp => ⟨hk₂ _ _ (AllNe.ne hI3 p hp) (N' p hp).1, (N' p hp).2⟩)
    obtain ⟨tx, hv⟩ := hall x hx
    obtain ⟨j, hj⟩ := List.mem_iff_getElem?.mp hv
    exact hP j x tx (List.getElem?_eq_some_iff.mp hj).1 hj
end
end Mine
open PySem PySem.W PyProof.Rows
set_option Elab.async false
namespace Mine
theorem w_clear_Nm : True := by
  w_top off
  k_with_none
  k_with "callWith" => (k_here; (with_reducible show wpAny _ _ (callWith _ (Value.builtin _) (_ :: _) (backTo _ (starEach (_ :: _) _)) []) _ _ _); (with_reducible refine' PyProof.Rows.callWith_method1 ?_ ?he ?hp); (case he => k_dflt rfl); (case hp => k_dflt rfl))
  k_with "callWith" => (k_here; (with_reducible show wpAny _ _ (callWith _ (Value.builtin _) [] (backTo _ (starEach (_ :: _) _)) []) _ _ _); (with_reducible refine' PyProof.Rows.callWith_builtin1 ?_ ?he ?hp); (case he => k_dflt rfl); (case hp => k_dflt rfl))
  trivial
open PyProof.Rows.LCg
noncomputable def clsBody (n : Str) : List Stmt → Option (List Stmt)
  | [] => none
  | .ClassDef _ _ _ body _ _ _ _ bind _ _ :: r => if bind = n then some body else clsBody n r
  | _ :: r => clsBody n r
noncomputable def nmDef : Option (List Stmt × Scope) := match clsBody (Str.ofString "_Ignore") PySem.Challenge.pw_pg0115_01.main.body with | some b => findDef (Str.ofString "names") b | none => none
noncomputable def nmScope : Option Scope := match nmDef with | some (_, sc) => some sc | none => none
noncomputable def nmSt (i : Nat) : Option Stmt := nmDef.bind fun d => d.1[i]?
noncomputable abbrev nmName : Str := Str.ofString "_Ignore.names"
theorem w_words_Nm_1 : True := by
  k_with "setItem ref str" => (k_here; k_dflt (refine' kda_set (knd := PySem.strKind _ _) ?kF ?kN ?kU ?kd ?kk ?ks ?_; (case kF => k_asm); (case kN => k_asm); (case kU => exact UpdF.head (by assumption)); (case kd => assumption); (case kk => exact strKind_is _ _ _ _); (case ks => (rw [sizeLine_eq]; omega)); k_whole; intro h9 o9 F9 N9 d9))
  k_with "binaryOp Add str str" => (k_here; k_dflt (refine' PyProof.Rows.add_str ?_ ?ks; (case ks => (rw [sizeLine_eq]; simp only [show (Str.ofString ".").length = 1 from by decide, show (Str.ofString "/").length = 1 from by decide]; omega)); k_whole; intro t9 tk9))
  k_with "exec For Name Attribute cons nil" => (k_here; k_dflt (refine' wpAny_For ?_ (by intro _; rfl)))
  trivial
section
variable {w : World} {mean : ExcName → Option Value} {mg mb : Str → Option Value} {h₀ base : Heap} {L fa L0 a0 : Addr} {cd ccd0 : Value} {A₀ : Around} {outer outer0 : List Env} {dp un : Nat} {gd : Option (List Code)} {cn0 : Str} {cs0 : Scope} {cl0 : List (Str × Addr)} {m : Str → Option Value} {news : List (Addr × Obj)} {s : Shared} {Q : Flow → Shared → Prop} {E : Value → Shared → Prop} {st : Stmt} {sc : Scope}
variable {x dx S D G : Addr} {oS oG : Obj} {xs : List Str} {md : Str} {tm : Tok} {t1 t2 t3 : Nat} {kvs : List (Str × Value)}
set_option maxRecDepth 100000 in
set_option maxHeartbeats 8000000 in
theorem nm_set (hst : nmSt 2 = some st) (hsc : nmScope = some sc) (hd : dp + 1 < recursionLimit) (hu : un + 8 * 1 < cLine) (X : (Mine.hd.heap_1 w.params).In h₀) (T : Top Mine.hd.view_1 (looseW Mine.hd.view_1 []) mean mg mb h₀) (F : Fr h₀ L s.heap m) (N : News h₀ L s.heap news) (h1 : m (Str.ofString "self") = some (.ref x)) (h2 : m (Str.ofString "modulename") = some (.str md tm)) (hn : news = [(G, oG), (x, instObj 79 dx), (dx, dictOf (ignEs w S D G t1 t2 t3) 3)]) (hS : h₀.get? S = some oS) (hSS : SetS PySem.Challenge.rw_pg0115_01.row.prog w oS xs) (hx2 : ∃ a b, a ∈ xs ∧ b ∈ xs ∧ a ≠ b) (hxl : xs.length ≤ 100)
    (hl : ∀ y ∈ xs, y.length ≤ 100) (hml : md.length ≤ 100) (hD : oG.IsDictOf (PySem.strKind PySem.Challenge.rw_pg0115_01.row.prog w) kvs) (hk : kvs.length ≤ 1000) (n1 : @Ne Nat x G) (n2 : @Ne Nat dx G)
    (found : ∀ h' tk' d' oG' t t' m', (∃ y ∈ xs, Txt.startswith md (y ++ Str.ofString ".") = true) → Fr h₀ L h' m' → News h₀ L h' [(G, oG'), (x, instObj 79 dx), (dx, dictOf (ignEs w S D G t1 t2 t3) 3)] → oG'.IsDictOf (PySem.strKind PySem.Challenge.rw_pg0115_01.row.prog w) (stored kvs md (.int 1 t)) → Q (.ret (.int 1 t')) { s with heap := h', toks := tk', drawn := d' })
    (none : ∀ h' tk' d' (u : Str → Option Value), (∀ y ∈ xs, Txt.startswith md (y ++ Str.ofString ".") = false) → Fr h₀ L h' (fun y => if y = (Str.ofString "mod") then u y else m y) → News h₀ L h' news → Q .next { s with heap := h', toks := tk', drawn := d' }) :
    wpAny (model PySem.Challenge.rw_pg0115_01.row.prog w) ((ktrTop dp un gd cn0 cs0 L0 a0 ccd0 cl0 outer0).deeper (envOf nmName sc L fa cd)) (exec st (envOf nmName sc L fa cd)) Q E s := by
  subst hn
  revert X
  k_fill
  intro X
  cases hst
  cases hsc
  (try dsimp only)
  have F := fr_know2 F h1 h2
  k_steps
  (rename Fr _ _ _ _ => kF)
  (rename News _ _ _ _ => kN)
  refine for_set hS hSS hx2 (by unfold scanBound; omega) rfl rfl (fun m' => ∃ u : Str → Option Value, m' = fun y => if y = (Str.ofString "mod") then u y else if y = (Str.ofString "self") then some (.ref x) else if y = (Str.ofString "modulename") then some (.str md tm) else m y) ⟨_, funext fun y => (ite_self _).symm⟩ kF kN (fun y => Txt.startswith md (y ++ Str.ofString ".") = false) ?_ ?_
  · rintro y ty m' h tk d tl hy ⟨u, rfl⟩ F N hne
    have hyl := hl y hy
    have hG : ∀ p ∈ (x, instObj 79 dx) :: (dx, dictOf (ignEs w S D G t1 t2 t3) 3) :: tl, p.1 ≠ G := fun p hp => by
      rcases List.mem_cons.mp hp with rfl | hp
      · exact n1
      · rcases List.mem_cons.mp hp with rfl | hp
        · exact n2
        · exact (hne p hp).1.symm
    simp only [List.cons_append, List.nil_append] at N
    have N : News h₀ L h ((G, oG) :: (x, instObj 79 dx) :: (dx, dictOf (ignEs w S D G t1 t2 t3) 3) :: tl) := N
    clear none
    unfold ignEs at N
    k_steps
    · (rename Fr _ _ _ _ => kF); (rename News _ _ _ _ => kN); (try dsimp only)
      (rename Obj.IsDictOf _ _ _ => kD)
      exact found _ _ _ _ _ _ _ ⟨y, hy, by assumption⟩ kF (fun p hp => kN p (by simp only [List.mem_cons, List.not_mem_nil, or_false] at hp ⊢; rcases hp with h | h | h <;> simp [h, ignEs])) kD
    · (rename Fr _ _ _ _ => kF); (rename News _ _ _ _ => kN); (try dsimp only)
      exact ⟨by assumption, _, _, _, _, rfl, ⟨_, map_close1 fun z hz => by simp only [if_neg hz]⟩, kF, kN⟩
  · rintro m' h tk d hP ⟨u, rfl⟩ F N
    exact none h tk d u hP (by simp only [know_pt h1, know_pt h2] at F; exact F) N

set_option maxRecDepth 100000 in
set_option maxHeartbeats 8000000 in
theorem nm_dir (hst : nmSt 4 = some st) (hsc : nmScope = some sc) (hd : dp + 1 < recursionLimit) (hu : un + 8 * 1 < cLine) (X : (Mine.hd.heap_1 w.params).In h₀) (T : Top Mine.hd.view_1 (looseW Mine.hd.view_1 []) mean mg mb h₀) (F : Fr h₀ L s.heap m) (N : News h₀ L s.heap news) {ys : List Value} {k : Nat} {fl : Str} {tf : Tok} (h1 : m (Str.ofString "self") = some (.ref x)) (h2 : m (Str.ofString "modulename") = some (.str md tm)) (h3 : m (Str.ofString "filename") = some (.str fl tf)) (hn : news = [(G, oG), (x, instObj 79 dx), (dx, dictOf (ignEs w S D G t1 t2 t3) 3)]) (hL : h₀.get? D = some (W.listOf ys.toArray k)) (hSS : StrsAre ys xs) (hxl : xs.length ≤ 100)
    (hl : ∀ y ∈ xs, y.length ≤ 100) (hml : fl.length ≤ 100) (hD : oG.IsDictOf (PySem.strKind PySem.Challenge.rw_pg0115_01.row.prog w) kvs) (hk : kvs.length ≤ 1000) (n1 : @Ne Nat x G) (n2 : @Ne Nat dx G)
    (found : ∀ h' tk' oG' t t' m', (∃ y ∈ xs, Txt.startswith fl (y ++ Str.ofString "/") = true) → Fr h₀ L h' m' → News h₀ L h' [(G, oG'), (x, instObj 79 dx), (dx, dictOf (ignEs w S D G t1 t2 t3) 3)] → oG'.IsDictOf (PySem.strKind PySem.Challenge.rw_pg0115_01.row.prog w) (stored kvs md (.int 1 t)) → Q (.ret (.int 1 t')) { s with heap := h', toks := tk' })
    (none : ∀ h' tk' (u : Str → Option Value), (∀ y ∈ xs, Txt.startswith fl (y ++ Str.ofString "/") = false) → Fr h₀ L h' (fun y => if y = (Str.ofString "d") then u y else m y) → News h₀ L h' news → Q .next { s with heap := h', toks := tk' }) :
    wpAny (model PySem.Challenge.rw_pg0115_01.row.prog w) ((ktrTop dp un gd cn0 cs0 L0 a0 ccd0 cl0 outer0).deeper (envOf nmName sc L fa cd)) (exec st (envOf nmName sc L fa cd)) Q E s := by
  subst hn
  revert X
  k_fill
  intro X
  cases hst
  cases hsc
  (try dsimp only)
  have F := fr_know3 F h1 h2 h3
  k_steps
  (rename Fr _ _ _ _ => kF)
  (rename News _ _ _ _ => kN)
  refine for_list (n₀ := 0) (Nat.zero_le _) (ol := W.listOf ys.toArray k) rfl ⟨k, rfl⟩ (fun i m' nx => (∃ u : Str → Option Value, m' = fun y => if y = (Str.ofString "d") then u y else if y = (Str.ofString "self") then some (.ref x) else if y = (Str.ofString "modulename") then some (.str md tm) else if y = (Str.ofString "filename") then some (.str fl tf) else m y) ∧
    nx = [(G, oG), (x, instObj 79 dx), (dx, dictOf (ignEs w S D G t1 t2 t3) 3)] ∧ ∀ y ∈ xs.take i, Txt.startswith fl (y ++ Str.ofString "/") = false) rfl (fun i m' nx h' _ F' _ => F'.keep _ _ hL) kF kN ⟨⟨_, funext fun y => (ite_self _).symm⟩, rfl, fun y hy => by rw [List.take_zero] at hy; cases hy⟩ (.inr rfl) ?_ ?_
  · rintro i v m₁ nx h tk I oI _ hv ⟨⟨u, rfl⟩, rfl, hP⟩ F N hn
    obtain ⟨y, ty, rfl, hyx⟩ := strs_at hSS hv
    have hyl := hl y (List.mem_of_getElem? hyx)
    have hnG : G ≠ I := hn.1
    have hnI : @Ne Nat I G := hnG.symm
    have N : News h₀ L h ((G, oG) :: (x, instObj 79 dx) :: (dx, dictOf (ignEs w S D G t1 t2 t3) 3) :: [(I, oI)]) := fun p hp => N p (by simp only [List.mem_cons, List.not_mem_nil, or_false] at hp ⊢; rcases hp with h | h | h | h <;> simp [h])
    have hG : ∀ p ∈ (x, instObj 79 dx) :: (dx, dictOf (ignEs w S D G t1 t2 t3) 3) :: [(I, oI)], p.1 ≠ G := fun p hp => by
      rcases List.mem_cons.mp hp with rfl | hp
      · exact n1
      · rcases List.mem_cons.mp hp with rfl | hp
        · exact n2
        · rw [List.mem_singleton.mp hp]; exact hnI
    clear none
    unfold ignEs at N
    k_steps
    · (rename Fr _ _ _ _ => kF); (rename News _ _ _ _ => kN); (try dsimp only)
      (rename Obj.IsDictOf _ _ _ => kD)
      exact found _ _ _ _ _ _ ⟨y, List.mem_of_getElem? hyx, by assumption⟩ kF (fun p hp => kN p (by simp only [List.mem_cons, List.not_mem_nil, or_false] at hp ⊢; rcases hp with h | h | h <;> simp [h, ignEs])) kD
    · (rename Fr _ _ _ _ => kF); (rename News _ _ _ _ => kN); (try dsimp only)
      refine TEnd.intro kF kN (by simp) (fun p hp => ?_) hn ⟨⟨_, map_close1 fun z hz => by simp only [if_neg hz]⟩, rfl, fun z hz => ?_⟩
      · simp only [List.mem_cons, List.not_mem_nil, or_false] at hp ⊢
        rcases hp with h | h | h <;> simp [h, ignEs]
      · rw [List.take_add_one, hyx] at hz
        rcases List.mem_append.mp hz with hz | hz
        · exact hP z hz
        · simp at hz
          rw [hz]; assumption
  · rintro m' nx h tk _ ⟨⟨u, rfl⟩, rfl, hP⟩ F N
    rw [strs_len hSS, List.take_length] at hP
    exact none h tk u hP (by simp only [know_pt h1, know_pt h2, know_pt h3] at F; exact F) N
end
end Mine
open PySem PySem.W PyProof.Rows
set_option Elab.async false
namespace Mine
theorem w_clear_Nn : True := by
  w_top off
  k_with_none
  k_with "callWith" => (k_here; (with_reducible show wpAny _ _ (callWith _ (Value.builtin _) (_ :: _) (backTo _ (starEach (_ :: _) _)) []) _ _ _); (with_reducible refine' PyProof.Rows.callWith_method1 ?_ ?he ?hp); (case he => k_dflt rfl); (case hp => k_dflt rfl))
  k_with "callWith" => (k_here; (with_reducible show wpAny _ _ (callWith _ (Value.builtin _) [] (backTo _ (starEach (_ :: _) _)) []) _ _ _); (with_reducible refine' PyProof.Rows.callWith_builtin1 ?_ ?he ?hp); (case he => k_dflt rfl); (case hp => k_dflt rfl))
  trivial
open PyProof.Rows.LCg
noncomputable abbrev IntV (b : Bool) (v : Value) : Prop := ∃ t, v = .int (if b then 1 else 0) t
noncomputable def ignLeft (ms ds : List Str) (md : Str) (fl : Option Str) : Bool :=
  decide (md ∈ ms) || ms.any (fun y => Txt.startswith md (y ++ Str.ofString ".")) || fl.isNone || (match fl with | some f => ds.any (fun y => Txt.startswith f (y ++ Str.ofString "/")) | none => false)
noncomputable def optS (l : Option Str) (t : Tok) : Value := match l with | some x => .str x t | none => .none
theorem in_setS {prog : Program} {w : World} {A : Around} {E : Value → Shared → Prop} {s : Shared} {S : Addr} {o : Obj} {xs : List Str} {md : Str} {t : Tok} {Q : Value → Shared → Prop} (ho : s.heap.get? S = some o) (hS : SetS prog w o xs) (hb : xs.length < scanBound) (b : Bool) (e : decide (md ∈ xs) = b) (h : ∀ tk, Q (.bool b) { s with toks := tk }) :
    wpAny (model prog w) A (compareOp .In (.str md t) (.ref S)) Q E s := by
  obtain ⟨hex, es, ep, tb, hd, hel, hmem, hf, hz, hp⟩ := hS
  refine wpAny_inSet_of (knd := strKind prog w) (S := fun k => decide (k ∈ xs)) (n := es.size) (k := md) (strKind_is _ _ _ _) rfl ⟨o, es, ep, tb, ho, hex, hd, hel, fun k => ?_, by omega, hf, rfl⟩ ?_
  · rw [decide_eq_true_eq]; exact hmem k
  · show Q (.bool (decide (md ∈ xs))) _
    rw [e]; exact h _

theorem w_words_Nn_1 : True := by
  k_with "setItem ref str" => (k_here; k_dflt (refine' kda_set (knd := PySem.strKind _ _) ?kF ?kN ?kU ?kd ?kk ?ks ?_; (case kF => k_asm); (case kN => k_asm); (case kU => exact UpdF.head (by assumption)); (case kd => assumption); (case kk => exact strKind_is _ _ _ _); (case ks => (rw [sizeLine_eq]; omega)); k_whole; intro h9 o9 F9 N9 d9))
  k_with "compareOp In str ref" => (k_here; k_dflt (first | (refine' kda_in (knd := PySem.strKind _ _) ?kN ?kp ?kd ?kl ?kk _ ?kb ?_; (case kN => k_asm); (case kp => exact .head _); (case kd => assumption); (case kl => assumption); (case kk => exact strKind_is _ _ _ _); (case kb => assumption); k_whole) | (refine' in_setS ?ko ?kS ?kb _ ?ke ?_; (case ko => (exact Fr.keep (by k_asm) _ _ (by assumption))); (case kS => assumption); (case kb => assumption); (case ke => assumption); k_whole; intro tk9)))
  k_with "subscriptTail" => (k_here; k_dflt (refine' kda_item (knd := PySem.strKind _ _) ?kN ?kp ?kd ?kk ?kl ?_; (case kN => k_asm); (case kp => exact .head _); (case kd => assumption); (case kk => exact strKind_is _ _ _ _); (case kl => assumption); k_whole))
  k_with "getItem ref str" => (k_here; k_dflt (refine' kdt_getItem (knd := PySem.strKind _ _) ?kN ?kp ?kd ?kk ?kl ?_; (case kN => k_asm); (case kp => exact .head _); (case kd => assumption); (case kk => exact strKind_is _ _ _ _); (case kl => assumption); k_whole))
  trivial
section
variable {w : World} {mean : ExcName → Option Value} {mg mb : Str → Option Value} {h₀ base : Heap} {L fa L0 a0 : Addr} {cd ccd0 : Value} {A₀ : Around} {outer outer0 : List Env} {dp un : Nat} {gd : Option (List Code)} {cn0 : Str} {cs0 : Scope} {cl0 : List (Str × Addr)} {m : Str → Option Value} {news : List (Addr × Obj)} {s : Shared} {Q : Flow → Shared → Prop} {E : Value → Shared → Prop} {st : Stmt} {sc : Scope}
variable {x dx S D G : Addr} {oS oG : Obj} {xs : List Str} {md : Str} {tm : Tok} {t1 t2 t3 : Nat} {kvs : List (Str × Value)}
set_option maxRecDepth 100000 in
set_option maxHeartbeats 8000000 in
theorem nm_0s (hst : nmSt 0 = some st) (hsc : nmScope = some sc) (hd : dp + 1 < recursionLimit) (hu : un + 8 * 1 < cLine) (X : (Mine.hd.heap_1 w.params).In h₀) (T : Top Mine.hd.view_1 (looseW Mine.hd.view_1 []) mean mg mb h₀) (F : Fr h₀ L s.heap m) (N : News h₀ L s.heap news) (h1 : m (Str.ofString "self") = some (.ref x)) (h2 : m (Str.ofString "modulename") = some (.str md tm)) (hn : news = [(G, oG), (x, instObj 79 dx), (dx, dictOf (ignEs w S D G t1 t2 t3) 3)]) (hD : oG.IsDictOf (PySem.strKind PySem.Challenge.rw_pg0115_01.row.prog w) kvs) (hk : kvs.length ≤ 1000) (n1 : @Ne Nat x G) (n2 : @Ne Nat dx G) (lo : (G == sysModules) = false) {v : Value} (hv : valueAt kvs md = some v)
    (ret : ∀ h' tk' m', Fr h₀ L h' m' → News h₀ L h' [(G, oG), (x, instObj 79 dx), (dx, dictOf (ignEs w S D G t1 t2 t3) 3)] → Q (.ret v) { s with heap := h', toks := tk' }) : wpAny (model PySem.Challenge.rw_pg0115_01.row.prog w) ((ktrTop dp un gd cn0 cs0 L0 a0 ccd0 cl0 outer0).deeper (envOf nmName sc L fa cd)) (exec st (envOf nmName sc L fa cd)) Q E s := by
  subst hn
  have hG9 : ∀ p ∈ [(x, instObj 79 dx), (dx, dictOf (ignEs w S D G t1 t2 t3) 3)], p.1 ≠ G := fun p hp => by
    rcases List.mem_cons.mp hp with rfl | hp
    · exact n1
    · rw [List.mem_singleton.mp hp]; exact n2
  unfold ignEs at N hG9
  have hb9 : (valueAt kvs md).isSome = true := by rw [hv]; rfl
  revert X
  k_fill
  intro X
  cases hst
  cases hsc
  (try dsimp only)
  have F := fr_know2 F h1 h2
  k_steps
  (rename Fr _ _ _ _ => kF); (rename News _ _ _ _ => kN); (try dsimp only)
  exact ret _ _ _ kF (fun p hp => kN p (by simp only [List.mem_cons, List.not_mem_nil, or_false] at hp ⊢; rcases hp with h | h | h <;> simp [h, ignEs]))
set_option maxRecDepth 100000 in
set_option maxHeartbeats 8000000 in
theorem nm_0n (hst : nmSt 0 = some st) (hsc : nmScope = some sc) (hd : dp + 1 < recursionLimit) (hu : un + 8 * 1 < cLine) (X : (Mine.hd.heap_1 w.params).In h₀) (T : Top Mine.hd.view_1 (looseW Mine.hd.view_1 []) mean mg mb h₀) (F : Fr h₀ L s.heap m) (N : News h₀ L s.heap news) (h1 : m (Str.ofString "self") = some (.ref x)) (h2 : m (Str.ofString "modulename") = some (.str md tm)) (hn : news = [(G, oG), (x, instObj 79 dx), (dx, dictOf (ignEs w S D G t1 t2 t3) 3)]) (hD : oG.IsDictOf (PySem.strKind PySem.Challenge.rw_pg0115_01.row.prog w) kvs) (hk : kvs.length ≤ 1000) (n1 : @Ne Nat x G) (n2 : @Ne Nat dx G) (lo : (G == sysModules) = false) (hv : valueAt kvs md = none)
    (next : ∀ h' tk', Fr h₀ L h' m → News h₀ L h' news → Q .next { s with heap := h', toks := tk' }) : wpAny (model PySem.Challenge.rw_pg0115_01.row.prog w) ((ktrTop dp un gd cn0 cs0 L0 a0 ccd0 cl0 outer0).deeper (envOf nmName sc L fa cd)) (exec st (envOf nmName sc L fa cd)) Q E s := by
  subst hn
  have hG9 : ∀ p ∈ [(x, instObj 79 dx), (dx, dictOf (ignEs w S D G t1 t2 t3) 3)], p.1 ≠ G := fun p hp => by
    rcases List.mem_cons.mp hp with rfl | hp
    · exact n1
    · rw [List.mem_singleton.mp hp]; exact n2
  unfold ignEs at N hG9
  have hb9 : (valueAt kvs md).isSome = false := by rw [hv]; rfl
  revert X
  k_fill
  intro X
  cases hst
  cases hsc
  (try dsimp only)
  have F := fr_know2 F h1 h2
  k_steps
  (rename Fr _ _ _ _ => kF); (rename News _ _ _ _ => kN); (try dsimp only)
  exact next _ _ (by (try simp only [know_pt h1, know_pt h2] at kF); exact kF) (fun p hp => kN p (by simp only [List.mem_cons, List.not_mem_nil, or_false] at hp ⊢; rcases hp with h | h | h <;> simp [h, ignEs]))
set_option maxRecDepth 100000 in
set_option maxHeartbeats 8000000 in
theorem nm_1s (hst : nmSt 1 = some st) (hsc : nmScope = some sc) (hd : dp + 1 < recursionLimit) (hu : un + 8 * 1 < cLine) (X : (Mine.hd.heap_1 w.params).In h₀) (T : Top Mine.hd.view_1 (looseW Mine.hd.view_1 []) mean mg mb h₀) (F : Fr h₀ L s.heap m) (N : News h₀ L s.heap news) (h1 : m (Str.ofString "self") = some (.ref x)) (h2 : m (Str.ofString "modulename") = some (.str md tm)) (hn : news = [(G, oG), (x, instObj 79 dx), (dx, dictOf (ignEs w S D G t1 t2 t3) 3)]) (hD : oG.IsDictOf (PySem.strKind PySem.Challenge.rw_pg0115_01.row.prog w) kvs) (hk : kvs.length ≤ 1000) (n1 : @Ne Nat x G) (n2 : @Ne Nat dx G) (lo : (G == sysModules) = false) (hS : h₀.get? S = some oS) (hSS : SetS PySem.Challenge.rw_pg0115_01.row.prog w oS xs) (hb8 : xs.length < scanBound) (hm : decide (md ∈ xs) = true)
    (found : ∀ h' tk' oG' t t' m', Fr h₀ L h' m' → News h₀ L h' [(G, oG'), (x, instObj 79 dx), (dx, dictOf (ignEs w S D G t1 t2 t3) 3)] → oG'.IsDictOf (PySem.strKind PySem.Challenge.rw_pg0115_01.row.prog w) (stored kvs md (.int 1 t)) → Q (.ret (.int 1 t')) { s with heap := h', toks := tk' }) : wpAny (model PySem.Challenge.rw_pg0115_01.row.prog w) ((ktrTop dp un gd cn0 cs0 L0 a0 ccd0 cl0 outer0).deeper (envOf nmName sc L fa cd)) (exec st (envOf nmName sc L fa cd)) Q E s := by
  subst hn
  have hG9 : ∀ p ∈ [(x, instObj 79 dx), (dx, dictOf (ignEs w S D G t1 t2 t3) 3)], p.1 ≠ G := fun p hp => by
    rcases List.mem_cons.mp hp with rfl | hp
    · exact n1
    · rw [List.mem_singleton.mp hp]; exact n2
  unfold ignEs at N hG9
  revert X
  k_fill
  intro X
  cases hst
  cases hsc
  (try dsimp only)
  have F := fr_know2 F h1 h2
  k_steps
  (rename Fr _ _ _ _ => kF); (rename News _ _ _ _ => kN); (try dsimp only)
  (rename Obj.IsDictOf _ _ _ => kD)
  exact found _ _ _ _ _ _ kF (fun p hp => kN p (by simp only [List.mem_cons, List.not_mem_nil, or_false] at hp ⊢; rcases hp with h | h | h <;> simp [h, ignEs])) kD
set_option maxRecDepth 100000 in
set_option maxHeartbeats 8000000 in
theorem nm_1n (hst : nmSt 1 = some st) (hsc : nmScope = some sc) (hd : dp + 1 < recursionLimit) (hu : un + 8 * 1 < cLine) (X : (Mine.hd.heap_1 w.params).In h₀) (T : Top Mine.hd.view_1 (looseW Mine.hd.view_1 []) mean mg mb h₀) (F : Fr h₀ L s.heap m) (N : News h₀ L s.heap news) (h1 : m (Str.ofString "self") = some (.ref x)) (h2 : m (Str.ofString "modulename") = some (.str md tm)) (hn : news = [(G, oG), (x, instObj 79 dx), (dx, dictOf (ignEs w S D G t1 t2 t3) 3)]) (hD : oG.IsDictOf (PySem.strKind PySem.Challenge.rw_pg0115_01.row.prog w) kvs) (hk : kvs.length ≤ 1000) (n1 : @Ne Nat x G) (n2 : @Ne Nat dx G) (lo : (G == sysModules) = false) (hS : h₀.get? S = some oS) (hSS : SetS PySem.Challenge.rw_pg0115_01.row.prog w oS xs) (hb8 : xs.length < scanBound) (hm : decide (md ∈ xs) = false)
    (next : ∀ h' tk', Fr h₀ L h' m → News h₀ L h' news → Q .next { s with heap := h', toks := tk' }) : wpAny (model PySem.Challenge.rw_pg0115_01.row.prog w) ((ktrTop dp un gd cn0 cs0 L0 a0 ccd0 cl0 outer0).deeper (envOf nmName sc L fa cd)) (exec st (envOf nmName sc L fa cd)) Q E s := by
  subst hn
  have hG9 : ∀ p ∈ [(x, instObj 79 dx), (dx, dictOf (ignEs w S D G t1 t2 t3) 3)], p.1 ≠ G := fun p hp => by
    rcases List.mem_cons.mp hp with rfl | hp
    · exact n1
    · rw [List.mem_singleton.mp hp]; exact n2
  unfold ignEs at N hG9
  revert X
  k_fill
  intro X
  cases hst
  cases hsc
  (try dsimp only)
  have F := fr_know2 F h1 h2
  k_steps
  (rename Fr _ _ _ _ => kF); (rename News _ _ _ _ => kN); (try dsimp only)
  exact next _ _ (by (try simp only [know_pt h1, know_pt h2] at kF); exact kF) (fun p hp => kN p (by simp only [List.mem_cons, List.not_mem_nil, or_false] at hp ⊢; rcases hp with h | h | h <;> simp [h, ignEs]))
set_option maxRecDepth 100000 in
set_option maxHeartbeats 8000000 in
theorem nm_3s (hst : nmSt 3 = some st) (hsc : nmScope = some sc) (hd : dp + 1 < recursionLimit) (hu : un + 8 * 1 < cLine) (X : (Mine.hd.heap_1 w.params).In h₀) (T : Top Mine.hd.view_1 (looseW Mine.hd.view_1 []) mean mg mb h₀) (F : Fr h₀ L s.heap m) (N : News h₀ L s.heap news) (h1 : m (Str.ofString "self") = some (.ref x)) (h2 : m (Str.ofString "modulename") = some (.str md tm)) (hn : news = [(G, oG), (x, instObj 79 dx), (dx, dictOf (ignEs w S D G t1 t2 t3) 3)]) (hD : oG.IsDictOf (PySem.strKind PySem.Challenge.rw_pg0115_01.row.prog w) kvs) (hk : kvs.length ≤ 1000) (n1 : @Ne Nat x G) (n2 : @Ne Nat dx G) (lo : (G == sysModules) = false) (h3 : m (Str.ofString "filename") = some .none)
    (found : ∀ h' tk' oG' t t' m', Fr h₀ L h' m' → News h₀ L h' [(G, oG'), (x, instObj 79 dx), (dx, dictOf (ignEs w S D G t1 t2 t3) 3)] → oG'.IsDictOf (PySem.strKind PySem.Challenge.rw_pg0115_01.row.prog w) (stored kvs md (.int 1 t)) → Q (.ret (.int 1 t')) { s with heap := h', toks := tk' }) : wpAny (model PySem.Challenge.rw_pg0115_01.row.prog w) ((ktrTop dp un gd cn0 cs0 L0 a0 ccd0 cl0 outer0).deeper (envOf nmName sc L fa cd)) (exec st (envOf nmName sc L fa cd)) Q E s := by
  subst hn
  have hG9 : ∀ p ∈ [(x, instObj 79 dx), (dx, dictOf (ignEs w S D G t1 t2 t3) 3)], p.1 ≠ G := fun p hp => by
    rcases List.mem_cons.mp hp with rfl | hp
    · exact n1
    · rw [List.mem_singleton.mp hp]; exact n2
  unfold ignEs at N hG9
  revert X
  k_fill
  intro X
  cases hst
  cases hsc
  (try dsimp only)
  have F := fr_know3 F h1 h2 h3
  k_steps
  (rename Fr _ _ _ _ => kF); (rename News _ _ _ _ => kN); (try dsimp only)
  (rename Obj.IsDictOf _ _ _ => kD)
  exact found _ _ _ _ _ _ kF (fun p hp => kN p (by simp only [List.mem_cons, List.not_mem_nil, or_false] at hp ⊢; rcases hp with h | h | h <;> simp [h, ignEs])) kD
set_option maxRecDepth 100000 in
set_option maxHeartbeats 8000000 in
theorem nm_3n (hst : nmSt 3 = some st) (hsc : nmScope = some sc) (hd : dp + 1 < recursionLimit) (hu : un + 8 * 1 < cLine) (X : (Mine.hd.heap_1 w.params).In h₀) (T : Top Mine.hd.view_1 (looseW Mine.hd.view_1 []) mean mg mb h₀) (F : Fr h₀ L s.heap m) (N : News h₀ L s.heap news) (h1 : m (Str.ofString "self") = some (.ref x)) (h2 : m (Str.ofString "modulename") = some (.str md tm)) (hn : news = [(G, oG), (x, instObj 79 dx), (dx, dictOf (ignEs w S D G t1 t2 t3) 3)]) (hD : oG.IsDictOf (PySem.strKind PySem.Challenge.rw_pg0115_01.row.prog w) kvs) (hk : kvs.length ≤ 1000) (n1 : @Ne Nat x G) (n2 : @Ne Nat dx G) (lo : (G == sysModules) = false) {fl : Str} {tf : Tok} (h3 : m (Str.ofString "filename") = some (.str fl tf))
    (next : ∀ h' tk', Fr h₀ L h' m → News h₀ L h' news → Q .next { s with heap := h', toks := tk' }) : wpAny (model PySem.Challenge.rw_pg0115_01.row.prog w) ((ktrTop dp un gd cn0 cs0 L0 a0 ccd0 cl0 outer0).deeper (envOf nmName sc L fa cd)) (exec st (envOf nmName sc L fa cd)) Q E s := by
  subst hn
  have hG9 : ∀ p ∈ [(x, instObj 79 dx), (dx, dictOf (ignEs w S D G t1 t2 t3) 3)], p.1 ≠ G := fun p hp => by
    rcases List.mem_cons.mp hp with rfl | hp
    · exact n1
    · rw [List.mem_singleton.mp hp]; exact n2
  unfold ignEs at N hG9
  revert X
  k_fill
  intro X
  cases hst
  cases hsc
  (try dsimp only)
  have F := fr_know3 F h1 h2 h3
  k_steps
  (rename Fr _ _ _ _ => kF); (rename News _ _ _ _ => kN); (try dsimp only)
  exact next _ _ (by (try simp only [know_pt h1, know_pt h2, know_pt h3] at kF); exact kF) (fun p hp => kN p (by simp only [List.mem_cons, List.not_mem_nil, or_false] at hp ⊢; rcases hp with h | h | h <;> simp [h, ignEs]))
set_option maxRecDepth 100000 in
set_option maxHeartbeats 8000000 in
theorem nm_5 (hst : nmSt 5 = some st) (hsc : nmScope = some sc) (hd : dp + 1 < recursionLimit) (hu : un + 8 * 1 < cLine) (X : (Mine.hd.heap_1 w.params).In h₀) (T : Top Mine.hd.view_1 (looseW Mine.hd.view_1 []) mean mg mb h₀) (F : Fr h₀ L s.heap m) (N : News h₀ L s.heap news) (h1 : m (Str.ofString "self") = some (.ref x)) (h2 : m (Str.ofString "modulename") = some (.str md tm)) (hn : news = [(G, oG), (x, instObj 79 dx), (dx, dictOf (ignEs w S D G t1 t2 t3) 3)]) (hD : oG.IsDictOf (PySem.strKind PySem.Challenge.rw_pg0115_01.row.prog w) kvs) (hk : kvs.length ≤ 1000) (n1 : @Ne Nat x G) (n2 : @Ne Nat dx G) (lo : (G == sysModules) = false)
    (next : ∀ h' tk' oG' t, Fr h₀ L h' m → News h₀ L h' [(G, oG'), (x, instObj 79 dx), (dx, dictOf (ignEs w S D G t1 t2 t3) 3)] → oG'.IsDictOf (PySem.strKind PySem.Challenge.rw_pg0115_01.row.prog w) (stored kvs md (.int 0 t)) → Q .next { s with heap := h', toks := tk' }) : wpAny (model PySem.Challenge.rw_pg0115_01.row.prog w) ((ktrTop dp un gd cn0 cs0 L0 a0 ccd0 cl0 outer0).deeper (envOf nmName sc L fa cd)) (exec st (envOf nmName sc L fa cd)) Q E s := by
  subst hn
  have hG9 : ∀ p ∈ [(x, instObj 79 dx), (dx, dictOf (ignEs w S D G t1 t2 t3) 3)], p.1 ≠ G := fun p hp => by
    rcases List.mem_cons.mp hp with rfl | hp
    · exact n1
    · rw [List.mem_singleton.mp hp]; exact n2
  unfold ignEs at N hG9
  revert X
  k_fill
  intro X
  cases hst
  cases hsc
  (try dsimp only)
  have F := fr_know2 F h1 h2
  k_steps
  (rename Fr _ _ _ _ => kF); (rename News _ _ _ _ => kN); (try dsimp only)
  (rename Obj.IsDictOf _ _ _ => kD)
  exact next _ _ _ _ (by (try simp only [know_pt h1, know_pt h2] at kF); exact kF) (fun p hp => kN p (by simp only [List.mem_cons, List.not_mem_nil, or_false] at hp ⊢; rcases hp with h | h | h <;> simp [h, ignEs])) kD
set_option maxRecDepth 100000 in
set_option maxHeartbeats 8000000 in
theorem nm_6 (hst : nmSt 6 = some st) (hsc : nmScope = some sc) (hd : dp + 1 < recursionLimit) (hu : un + 8 * 1 < cLine) (X : (Mine.hd.heap_1 w.params).In h₀) (T : Top Mine.hd.view_1 (looseW Mine.hd.view_1 []) mean mg mb h₀) (F : Fr h₀ L s.heap m) (N : News h₀ L s.heap news)
    (ret : ∀ h' tk' t, Fr h₀ L h' m → News h₀ L h' news → Q (.ret (.int 0 t)) { s with heap := h', toks := tk' }) : wpAny (model PySem.Challenge.rw_pg0115_01.row.prog w) ((ktrTop dp un gd cn0 cs0 L0 a0 ccd0 cl0 outer0).deeper (envOf nmName sc L fa cd)) (exec st (envOf nmName sc L fa cd)) Q E s := by
  revert X
  k_fill
  intro X
  cases hst
  cases hsc
  (try dsimp only)
  k_steps
  (rename Fr _ _ _ _ => kF); (rename News _ _ _ _ => kN); (try dsimp only)
  exact ret _ _ _ kF kN
end
end Mine
open PySem PySem.W PyProof.Rows
set_option Elab.async false
namespace Mine
open PyProof.Rows.LCg
section
set_option maxRecDepth 100000 in
set_option maxHeartbeats 8000000 in
theorem c_names (w : World) {mean : ExcName → Option Value} {mg mb : Str → Option Value} {dp un : Nat} {gd : Option (List Code)} {cn : Str} {cs : Scope} {a : Addr} {ccd : Value} {cl : List (Str × Addr)} {outer : List Env} {A₀ : Around} {base h₀ : Heap} {L : Addr} {m : Str → Option Value} {s : Shared} {Q E : Value → Shared → Prop}
    (B : Below A₀ base outer h₀) (F : Fr h₀ L s.heap m) (X : (Mine.hd.heap_1 w.params).In h₀) (T : Top Mine.hd.view_1 (looseW Mine.hd.view_1 []) mean mg mb h₀) (hk : cs.kind = .function) (hd : dp + 2 < recursionLimit) (hu : un + 8 * 2 < cLine)
    {x dx S D G : Addr} {oS oG : Obj} {xs ds : List Str} {ys : List Value} {k : Nat} {md : Str} {tm tf : Tok} {t1 t2 t3 : Nat} {kvs : List (Str × Value)} {f : Str → Option Bool} {file : Option Str}
    (N : News h₀ L s.heap [(G, oG), (x, instObj 79 dx), (dx, dictOf (ignEs w S D G t1 t2 t3) 3)]) (hS : s.heap.get? S = some oS) (hSS : SetS PySem.Challenge.rw_pg0115_01.row.prog w oS xs) (hL : s.heap.get? D = some (W.listOf ys.toArray k)) (hys : StrsAre ys ds)
    (nS : S ∉ [G, x, dx]) (nD : D ∉ [G, x, dx]) (n1 : @Ne Nat x G) (n2 : @Ne Nat dx G) (lo : (G == sysModules) = false) (hx2 : ∃ a b, a ∈ xs ∧ b ∈ xs ∧ a ≠ b) (hxl : xs.length ≤ 100) (hdl : ds.length ≤ 100) (hl1 : ∀ y ∈ xs, y.length ≤ 100) (hl2 : ∀ y ∈ ds, y.length ≤ 100) (hml : md.length ≤ 100) (hfl : ∀ y ∈ file, y.length ≤ 100)
    (hD : oG.IsDictOf (PySem.strKind PySem.Challenge.rw_pg0115_01.row.prog w) kvs) (hkv : kvs.length ≤ 1000) (hf : FirstOk IntV kvs f)
    (ret : ∀ h' tk' d' oG' kvs' t', (∀ b o, b ≠ G → s.heap.get? b = some o → h'.get? b = some o) → h'.get? G = some oG' → oG'.IsDictOf (PySem.strKind PySem.Challenge.rw_pg0115_01.row.prog w) kvs' → kvs'.length ≤ kvs.length + 1 →
      FirstOk IntV kvs' (fun y => if y = md then some ((f md).getD (ignLeft xs ds md file)) else f y) → Q (.int (if (f md).getD (ignLeft xs ds md file) then 1 else 0) t') { s with heap := h', toks := tk', drawn := d' }) :
    wpAny (model PySem.Challenge.rw_pg0115_01.row.prog w) (ktrTop dp un gd cn cs L a ccd cl outer) (call (.ref 76) [.ref x, optS file tf, .str md tm]) Q E s := by
  revert X
  k_fill
  intro X
  refine wpAny_call ?_
  k_dflt (refine' callM N ?k1 ?k2 ?k3 ?k5 ?kA ?kF ?kK ?k6 ?k7 ?k8 ?k9 ?kB ?_ ?c2 ?c3 ?c4 ?c5; (case kA => exact rfl); (case kF => exact rfl); (case kK => exact hk); (case k1 => k_asm); (case k2 => k_asm); (case k3 => k_asm); (case k5 => k_asm); (case k6 => k_is); (case k7 => k_is); (case k8 => ktr_room); (case k9 => exact BindsTo.of_eq rfl); (case c5 => decide); (case kB => exact locs rfl); (case c2 => exact rfl); (case c3 => exact rfl); (case c4 => exact rfl); k_whole)
  intro g L' h1 hg F1 N1 B1 X1 T1
  have hS1 : g.get? S = some oS := hg S oS (by simpa using nS) hS
  have hL1 : g.get? D = some (W.listOf ys.toArray k) := hg D _ (by simpa using nD) hL
  have hxs : xs.length < scanBound := by unfold scanBound; omega
  have kept : ∀ {hh : Heap} {m' : Str → Option Value} {oG' : Obj}, Fr g L' hh m' → News g L' hh [(G, oG'), (x, instObj 79 dx), (dx, dictOf (ignEs w S D G t1 t2 t3) 3)] → ∀ b o, b ≠ G → s.heap.get? b = some o → hh.get? b = some o := by
    intro hh m' oG' F' N' b o hb e
    by_cases b1 : b = x
    · subst b1
      rw [(N _ (.tail _ (.head _))).1] at e
      rw [← e]; exact (N' _ (.tail _ (.head _))).1
    · by_cases b2 : b = dx
      · subst b2
        rw [(N _ (.tail _ (.tail _ (.head _)))).1] at e
        rw [← e]; exact (N' _ (.tail _ (.tail _ (.head _)))).1
      · exact F'.keep b o (hg b o (by simp [hb, b1, b2]) e)
  have hd1 : dp + 1 < recursionLimit := by omega
  have hu1 : un + 8 * 1 < cLine := by omega
  have e8 : ∀ {b : Bool}, ignLeft xs ds md file = b → f md = none → (f md).getD (ignLeft xs ds md file) = b := fun h1 h2 => by rw [h2, Option.getD_none, h1]
  cases hfm : f md with
  | some b =>
    have hs := hf md
    rw [hfm] at hs
    obtain ⟨v, ⟨tv, rfl⟩, hv⟩ := hs
    refine wpAny_execs_cons ?_
    refine nm_0s rfl rfl hd1 hu1 X1 T1 F1 N1 rfl rfl rfl hD hkv n1 n2 lo hv fun h' tk' m' F' N' => ?_
    have e := ret h' tk' s.drawn oG kvs tv (kept F' N') (N' _ (.head _)).1 hD (Nat.le_succ _) (by rw [hfm]; exact hf.same hfm)
    rw [hfm] at e
    exact e
  | none =>
    have hv := hf md
    rw [hfm] at hv
    have fin : ∀ {b : Bool} {h' : Heap} {tk' : Nat} {d' : Drawn} {oG' : Obj} {t t' : Tok} {m' : Str → Option Value}, ignLeft xs ds md file = b → Fr g L' h' m' → News g L' h' [(G, oG'), (x, instObj 79 dx), (dx, dictOf (ignEs w S D G t1 t2 t3) 3)] → oG'.IsDictOf (PySem.strKind PySem.Challenge.rw_pg0115_01.row.prog w) (stored kvs md (.int (if b then 1 else 0) t)) → Q (.int (if b then 1 else 0) t') { s with heap := h', toks := tk', drawn := d' } := by
      intro b h' tk' d' oG' t t' m' hb F' N' hD'
      have e := ret h' tk' d' oG' _ t' (kept F' N') (N' _ (.head _)).1 hD' (stored_length _ _ _) (by rw [e8 hb hfm]; exact hf.store ⟨t, rfl⟩)
      rw [e8 hb hfm] at e
      exact e
    refine wpAny_execs_cons ?_
    refine nm_0n rfl rfl hd1 hu1 X1 T1 F1 N1 rfl rfl rfl hD hkv n1 n2 lo hv fun h' tk' F1 N1 => ?_
    refine wpAny_execs_cons ?_
    cases hmx : decide (md ∈ xs) with
    | true =>
      refine nm_1s rfl rfl hd1 hu1 X1 T1 F1 N1 rfl rfl rfl hD hkv n1 n2 lo hS1 hSS hxs hmx fun h' tk' oG' t t' m' F' N' hD' => ?_
      exact fin (b := true) (d' := s.drawn) (by simp [ignLeft, hmx]) F' N' hD'
    | false =>
      refine nm_1n rfl rfl hd1 hu1 X1 T1 F1 N1 rfl rfl rfl hD hkv n1 n2 lo hS1 hSS hxs hmx fun h' tk' F1 N1 => ?_
      refine wpAny_execs_cons ?_
      refine nm_set rfl rfl hd1 hu1 X1 T1 F1 N1 rfl rfl rfl hS1 hSS hx2 hxl hl1 hml hD hkv n1 n2 (fun h' tk' d' oG' t t' m' hy F' N' hD' => ?_) fun h' tk' d' u hno F1 N1 => ?_
      · obtain ⟨y, hy, hy2⟩ := hy
        refine fin (b := true) (d' := d') ?_ F' N' hD'
        have : xs.any (fun y => Txt.startswith md (y ++ Str.ofString ".")) = true := List.any_eq_true.mpr ⟨y, hy, hy2⟩
        simp only [ignLeft, this]; simp
      have hno : xs.any (fun y => Txt.startswith md (y ++ Str.ofString ".")) = false := by
        rw [List.any_eq_false]
        intro y hy
        rw [hno y hy]; decide
      refine wpAny_execs_cons ?_
      cases hfile : file with
      | none =>
        subst hfile
        refine nm_3s rfl rfl hd1 hu1 X1 T1 F1 N1 rfl rfl rfl hD hkv n1 n2 lo rfl fun h' tk' oG' t t' m' F' N' hD' => ?_
        exact fin (b := true) (d' := d') (by simp [ignLeft]) F' N' hD'
      | some fl =>
        subst hfile
        refine nm_3n rfl rfl hd1 hu1 X1 T1 F1 N1 rfl rfl rfl hD hkv n1 n2 lo rfl fun h' tk' F1 N1 => ?_
        refine wpAny_execs_cons ?_
        refine nm_dir rfl rfl hd1 hu1 X1 T1 F1 N1 rfl rfl rfl rfl hL1 hys hdl hl2 (hfl fl rfl) hD hkv n1 n2 (fun h' tk' oG' t t' m' hy F' N' hD' => ?_) fun h' tk' u hnd F1 N1 => ?_
        · obtain ⟨y, hy, hy2⟩ := hy
          refine fin (b := true) (d' := d') ?_ F' N' hD'
          have : ds.any (fun y => Txt.startswith fl (y ++ Str.ofString "/")) = true := List.any_eq_true.mpr ⟨y, hy, hy2⟩
          simp only [ignLeft, this]; simp
        have hnd : ds.any (fun y => Txt.startswith fl (y ++ Str.ofString "/")) = false := by
          rw [List.any_eq_false]
          intro y hy
          rw [hnd y hy]; decide
        refine wpAny_execs_cons ?_
        refine nm_5 rfl rfl hd1 hu1 X1 T1 F1 N1 rfl rfl rfl hD hkv n1 n2 lo fun h' tk' oG' t F1 N1 hD' => ?_
        refine wpAny_execs_cons ?_
        refine nm_6 rfl rfl hd1 hu1 X1 T1 F1 N1 fun h' tk' t' F' N' => ?_
        exact fin (b := false) (d' := d') (by simp only [ignLeft, hmx, hno, hnd]; simp) F' N' hD'
end
end Mine
open PySem PySem.W PyProof.Rows
set_option Elab.async false
namespace Mine
theorem w_clear_Aq : True := by
  w_top off
  k_with_none
  k_with "callWith" => (k_here; (with_reducible show wpAny _ _ (callWith _ (Value.builtin _) (_ :: _) (backTo _ (starEach (_ :: _) _)) []) _ _ _); (with_reducible refine' PyProof.Rows.callWith_method1 ?_ ?he ?hp); (case he => k_dflt rfl); (case hp => k_dflt rfl))
  k_with "callWith" => (k_here; (with_reducible show wpAny _ _ (callWith _ (Value.builtin _) [] (backTo _ (starEach (_ :: _) _)) []) _ _ _); (with_reducible refine' PyProof.Rows.callWith_builtin1 ?_ ?he ?hp); (case he => k_dflt rfl); (case hp => k_dflt rfl))
  trivial
open PyProof.Rows.LCg
theorem opts_at : ∀ {vs : List Value} {xs : List (Option Str)}, OptsAre vs xs → ∀ {i : Nat} {x : Option Str}, xs[i]? = some x → ∃ t, vs[i]? = some (optS x t)
  | _, _, .nil, i, x, h => by simp at h
  | _, _, .some y t hr, 0, x, h => by
    simp only [List.getElem?_cons_zero, Option.some.injEq] at h
    subst h
    exact ⟨t, rfl⟩
  | _, _, .none hr, 0, x, h => by
    simp only [List.getElem?_cons_zero, Option.some.injEq] at h
    subst h
    exact ⟨0, rfl⟩
  | _, _, .some y t hr, i + 1, x, h => by
    simp only [List.getElem?_cons_succ] at h ⊢
    exact opts_at hr h
  | _, _, .none hr, i + 1, x, h => by
    simp only [List.getElem?_cons_succ] at h ⊢
    exact opts_at hr h
theorem strs_at' : ∀ {vs : List Value} {xs : List Str}, StrsAre vs xs → ∀ {i : Nat} {x : Str}, xs[i]? = some x → ∃ t, vs[i]? = some (.str x t)
  | _, _, .nil, i, x, h => by simp at h
  | _, _, .cons y t hr, 0, x, h => by
    simp only [List.getElem?_cons_zero, Option.some.injEq] at h
    subst h
    exact ⟨t, rfl⟩
  | _, _, .cons y t hr, i + 1, x, h => by
    simp only [List.getElem?_cons_succ] at h ⊢
    exact strs_at' hr h
theorem my_item {prog : Program} {w : World} {A : Around} {E : Value → Shared → Prop} {s : Shared} {value slice : PySem.Expr} {h₀ : Heap} {L : Addr} {m : Str → Option Value} {l : Addr} {vs : List Value} {k : Int} {u : Tok} {v : Value} {Q : Value → Shared → Prop}
    (F : Fr h₀ L s.heap m) (hl : h₀.IsList l vs.toArray) (hx : vs[k.toNat]? = some v) (h0 : 0 ≤ k ∧ k < 2 ^ 63) (h : Q v s)
    (hs : subscripted slice false (.ref l) (.int k u) = operate [.ref l, .int k u] (getItem (.ref l) (.int k u)) := by with_unfolding_all rfl) :
    wpAny (model prog w) A (subscriptTail value slice (.ref l) (.int k u)) Q E s := by
  have hl' : s.heap.IsList l vs.toArray := by
    obtain ⟨o, ho, r⟩ := hl
    exact ⟨o, F.keep _ _ ho, r⟩
  exact tail_any hl'.typeIs slot_list_getitem.lookup (wpAny_getItem_list hl' h0.1 h0.2 (by simpa using hx) h) hs
theorem names_use (w : World) {mean : ExcName → Option Value} {mg mb : Str → Option Value} {dp un : Nat} {gd : Option (List Code)} {cn : Str} {cs : Scope} {a : Addr} {ccd : Value} {cl : List (Str × Addr)} {outer : List Env} {A₀ : Around} {base h₀ : Heap} {L : Addr} {m : Str → Option Value} {s : Shared} {Q E : Value → Shared → Prop}
    (B : Below A₀ base outer h₀) (F : Fr h₀ L s.heap m) (X : (Mine.hd.heap_1 w.params).In h₀) (T : Top Mine.hd.view_1 (looseW Mine.hd.view_1 []) mean mg mb h₀) (hk : cs.kind = .function) (hd : dp + 2 < recursionLimit) (hu : un + 8 * 2 < cLine)
    {x dx S D G I C D2 : Addr} {oS oG oI oC oD2 : Obj} {xs ds : List Str} {ys : List Value} {md : Str} {tm tf : Tok} {t1 t2 t3 : Nat} {kvs : List (Str × Value)} {f : Str → Option Bool} {file : Option Str} {tl : List (Addr × Obj)}
    (N : News h₀ L s.heap ((I, oI) :: (C, oC) :: (D2, oD2) :: (G, oG) :: (D, lst ys) :: (S, oS) :: (x, instObj 79 dx) :: (dx, dictOf (ignEs w S D G t1 t2 t3) 3) :: tl)) (hne : ∀ p ∈ (I, oI) :: (C, oC) :: (D2, oD2) :: (D, lst ys) :: (S, oS) :: (x, instObj 79 dx) :: (dx, dictOf (ignEs w S D G t1 t2 t3) 3) :: tl, p.1 ≠ G)
    (hSS : SetS PySem.Challenge.rw_pg0115_01.row.prog w oS xs) (hys : StrsAre ys ds) (nSD : S ≠ x ∧ S ≠ dx ∧ D ≠ x ∧ D ≠ dx) (lo : (G == sysModules) = false) (hx2 : ∃ a b, a ∈ xs ∧ b ∈ xs ∧ a ≠ b) (hxl : xs.length ≤ 100) (hdl : ds.length ≤ 100) (hl1 : ∀ y ∈ xs, y.length ≤ 100) (hl2 : ∀ y ∈ ds, y.length ≤ 100) (hml : md.length ≤ 100) (hfl : ∀ y ∈ file, y.length ≤ 100)
    (hD : oG.IsDictOf (PySem.strKind PySem.Challenge.rw_pg0115_01.row.prog w) kvs) (hkv : kvs.length ≤ 1000) (hf : FirstOk IntV kvs f)
    (ret : ∀ b h' tk' d' oG' kvs' t', b = (f md).getD (ignLeft xs ds md file) → Fr h₀ L h' m → News h₀ L h' ((I, oI) :: (C, oC) :: (D2, oD2) :: (G, oG') :: (D, lst ys) :: (S, oS) :: (x, instObj 79 dx) :: (dx, dictOf (ignEs w S D G t1 t2 t3) 3) :: tl) → oG'.IsDictOf (PySem.strKind PySem.Challenge.rw_pg0115_01.row.prog w) kvs' → kvs'.length ≤ kvs.length + 1 →
      FirstOk IntV kvs' (fun y => if y = md then some b else f y) → Q (.int (if b then 1 else 0) t') { s with heap := h', toks := tk', drawn := d' }) :
    wpAny (model PySem.Challenge.rw_pg0115_01.row.prog w) (ktrTop dp un gd cn cs L a ccd cl outer) (call (.ref 76) [.ref x, optS file tf, .str md tm]) Q E s := by
  have nx := hne _ (.tail _ (.tail _ (.tail _ (.tail _ (.tail _ (.head _))))))
  have ndx := hne _ (.tail _ (.tail _ (.tail _ (.tail _ (.tail _ (.tail _ (.head _)))))))
  have nS := hne _ (.tail _ (.tail _ (.tail _ (.tail _ (.head _)))))
  have nD := hne _ (.tail _ (.tail _ (.tail _ (.head _))))
  refine c_names w B F X T hk hd hu (N := news_sub N (n' := [(G, oG), (x, instObj 79 dx), (dx, dictOf (ignEs w S D G t1 t2 t3) 3)]) (fun p hp => by simp only [List.mem_cons, List.not_mem_nil, or_false] at hp ⊢; rcases hp with h | h | h <;> simp [h]))
    (hS := (N _ (.tail _ (.tail _ (.tail _ (.tail _ (.tail _ (.head _))))))).1) (hSS := hSS) (hL := (N _ (.tail _ (.tail _ (.tail _ (.tail _ (.head _)))))).1) (hys := hys) (nS := by simp only [List.mem_cons, List.not_mem_nil, or_false, not_or]; exact ⟨nS, nSD.1, nSD.2.1⟩) (nD := by simp only [List.mem_cons, List.not_mem_nil, or_false, not_or]; exact ⟨nD, nSD.2.2.1, nSD.2.2.2⟩)
    (n1 := nx) (n2 := ndx) lo hx2 hxl hdl hl1 hl2 hml hfl hD hkv hf fun h' tk' d' oG' kvs' t' kp hG hD' hk' hf' => ?_
  refine ret _ h' tk' d' oG' kvs' t' rfl ?_ (fun p hp => ?_) hD' hk' hf'
  · have zG := N _ (.tail _ (.tail _ (.tail _ (.head _))))
    exact ⟨F.ns.at' fun o e => kp _ _ (Ne.symm zG.2.1) e, fun b o e => kp _ _ (fun q => by rw [q, zG.2.2] at e; cases e) (F.keep b o e), F.above⟩
  · have zG := N _ (.tail _ (.tail _ (.tail _ (.head _))))
    by_cases hp2 : p = (G, oG')
    · subst hp2; exact ⟨hG, zG.2⟩
    · have hp3 : p ∈ (I, oI) :: (C, oC) :: (D2, oD2) :: (D, lst ys) :: (S, oS) :: (x, instObj 79 dx) :: (dx, dictOf (ignEs w S D G t1 t2 t3) 3) :: tl := by
        rcases List.mem_cons.mp hp with h | hp
        · simp [h]
        rcases List.mem_cons.mp hp with h | hp
        · simp [h]
        rcases List.mem_cons.mp hp with h | hp
        · simp [h]
        rcases List.mem_cons.mp hp with h | hp
        · exact absurd h hp2
        exact .tail _ (.tail _ (.tail _ hp))
      have hp4 : p ∈ (I, oI) :: (C, oC) :: (D2, oD2) :: (G, oG) :: (D, lst ys) :: (S, oS) :: (x, instObj 79 dx) :: (dx, dictOf (ignEs w S D G t1 t2 t3) 3) :: tl := by
        rcases List.mem_cons.mp hp3 with h | hp
        · simp [h]
        rcases List.mem_cons.mp hp with h | hp
        · simp [h]
        rcases List.mem_cons.mp hp with h | hp
        · simp [h]
        exact .tail _ (.tail _ (.tail _ (.tail _ hp)))
      exact ⟨kp _ _ (hne p hp3) (N p hp4).1, (N p hp4).2⟩
theorem comp2_evalF {prog : Program} {w : World} {A : Around} {E : Value → Shared → Prop} {s : Shared} {h₀ : Heap} {L : Addr} {m : Str → Option Value} {env : Env} {elt iter : Expr} {x x₂ : Str} {px px₂ tp : Pos} {tk} {scope : Scope} {cl : List (Str × Addr)} {pos : Pos} {Q : Value → Shared → Prop}
    (_ : Fr h₀ L s.heap m) (hclos : closureFor scope env = pure cl) (hcell : ∀ y ∈ scope.names, y.2 ≠ .cell) (hkind : scope.kind = .function)
    (hnames : ∀ y ∈ scope.names, y.2 = .local → scope.names.lookup y.1 = some .local) (hx : scope.names.lookup x = some .local) (hx₂ : scope.names.lookup x₂ = some .local) (hxx : x ≠ x₂) (hh : A.handled = none)
    (h : wpAny (model prog w) A (eval iter env) (Go2 (prog := prog) (w := w) (A := A) (h₀ := h₀) (L := L) (m := m) (env := env) elt x x₂ scope cl (fun _ h => Fr h₀ L h m) (fun D => Q (.ref D))) E s)
    (hs : ∀ x, foldedSetIterable iter env x = pure x := by intro _; rfl) :
    wpAny (model prog w) A (eval (.ListComp elt [⟨.Tuple [.Name x px, .Name x₂ px₂] tk tp, iter, [], 0⟩] scope pos) env) Q E s := comp2_eval hclos hcell hkind hnames hx hx₂ hxx hh h hs
noncomputable def f0 : Str → Option Bool := fun y => if y = Str.ofString "<string>" then some true else none
theorem first0 (t : Tok) : FirstOk IntV [(Str.ofString "<string>", .int 1 t)] f0 := by
  intro k
  by_cases h : k = Str.ofString "<string>"
  · subst h
    simp only [f0, if_pos]
    exact ⟨_, ⟨t, rfl⟩, by simp [valueAt]⟩
  · have h2 : ¬ Str.ofString "<string>" = k := fun e => h e.symm
    simp only [f0, if_neg h]
    simp [valueAt, h2]
/-- the texts asked for -/
noncomputable def asksS (mods : List Str) (fls : List (Option Str)) (xs : List (Int × Int)) : List (Str × Option Str) := xs.map fun c => (mods.getD c.1.toNat Str.empty, fls.getD c.2.toNat none)
noncomputable def AnsJ (prog : Program) (w : World) (lf : Str → Option Str → Bool) (asks : List (Str × Option Str)) (G : Addr) (rest : List (Addr × Obj)) (i : Nat) (ys : List Value) (nx : List (Addr × Obj)) : Prop :=
  ∃ oG kvs, nx = (G, oG) :: rest ∧ oG.IsDictOf (PySem.strKind prog w) kvs ∧ kvs.length ≤ i + 1 ∧ FirstOk IntV kvs (runB lf f0 (asks.take i)).1 ∧ StrsAre ys ((runB lf f0 (asks.take i)).2.map bitT)
theorem w_words_Aq_1 : True := by
  k_with "subscriptTail" => (k_here; (with_reducible show wpAny _ _ (subscriptTail _ _ (Value.ref _) (Value.int _ _)) _ _ _); k_dflt (refine' my_item ?kF ?kl ?kx ?k0 ?_ ?k6; (case kF => k_asm); (case kx => assumption); (case kl => assumption); (case k0 => assumption); (case k6 => with_unfolding_all rfl); k_whole))
  k_with "eval ListComp" => (k_here; k_dflt (refine comp2_evalF (by k_asm) (by with_unfolding_all rfl) (by decide) (by rfl) (by decide) (by rfl) (by rfl) (by decide) rfl ?_))
  k_with "call ref" => (k_here; k_dflt (refine' names_use _ ?k1 ?k2 ?k3 ?k4 ?kK ?kd ?ku ?kN ?kne ?kSS ?kys ?knS ?klo ?kx2 ?kxl ?kdl ?kl1 ?kl2 ?kml ?kfl ?kD ?kkv ?kf ?_; (case k1 => k_asm); (case k2 => k_asm); (case k3 => k_asm); (case k4 => k_asm); (case kK => exact rfl); (case kd => ktr_room); (case ku => ktr_units); (case kN => k_asm); (case kne => assumption); (case kSS => assumption); (case kys => assumption); (case knS => assumption); (case klo => assumption); (case kx2 => assumption); (case kxl => assumption); (case kdl => assumption); (case kl1 => assumption); (case kl2 => assumption); (case kml => assumption); (case kfl => assumption); (case kD => assumption); (case kkv => assumption); (case kf => assumption); k_whole); intro b9 h9 tk9 d9 o9 kvs9 t9 hb9 F9 N9 D9 l9 f9; (cases b9 <;> (try simp only [Bool.false_eq_true, if_false, if_true])))
  k_with "call builtin:str.join" => (k_here; k_dflt (refine' join_list ?hl ?hi ?hok ?_; (case hl => is_list); (case hi => assumption); (case hok => exact join_ok _ (by assumption)); k_whole); intro t9 k9)
  trivial
theorem join_ok (bs : List Bool) (h : (bs.map bitT).length ≤ 100) : ((bs.map bitT).map (·.length)).sum + (bs.map bitT).length * (Str.ofString "").length ≤ 16777216 := by
  rw [show (Str.ofString "").length = 0 by decide, Nat.mul_zero, Nat.add_zero]
  have : ∀ bs : List Bool, ((bs.map bitT).map (·.length)).sum = bs.length := by
    intro bs
    induction bs with
    | nil => rfl
    | cons b r ih => simp only [List.map_cons, List.sum_cons, ih, bitT_len, List.length_cons]; omega
  rw [this]
  rw [List.length_map] at h
  omega
theorem ofs_empty : Str.ofString "" = Str.empty := by decide
theorem join_bits (bs : List Bool) : Txt.join (Str.ofString "") (bs.map bitT) = bitsT bs := by
  show Builtin.Str.glued (Str.ofString "") _ = _
  rw [StrLaws.glued_eq_join, ofs_empty]
  have jc : ∀ (x : Str) (r : List Str), Str.join Str.empty (x :: r) = x ++ Str.join Str.empty r := by
    intro x r
    cases r with
    | nil => show x = x ++ Str.empty; rw [Str.append_empty]
    | cons y r => show x ++ Str.empty ++ _ = _; rw [Str.append_empty]
  have h : ∀ (bs : List Bool) (a : Str), a ++ Str.join Str.empty (bs.map bitT) = bs.foldl (fun t b => t ++ bitT b) a := by
    intro bs
    induction bs with
    | nil => intro a; show a ++ Str.empty = a; rw [Str.append_empty]
    | cons b r ih => intro a; rw [List.map_cons, jc, List.foldl_cons, ← ih, Str.append_assoc]
  rw [bitsT, ← h, ofs_empty, Str.empty_append]
local macro_rules | `(tactic| ktr_units) => `(tactic| ((try simp only [units_under_make, units_in1, units_deeper, Around.mark_units, units_caller]); (try dsimp only [ktrTop]); omega))
section
variable {w : World} {mean : ExcName → Option Value} {mg mb : Str → Option Value} {h₀ base : Heap} {L fa L0 a0 : Addr} {cd ccd0 : Value} {A₀ : Around} {outer outer0 : List Env} {dp un : Nat} {gd : Option (List Code)} {cn0 : Str} {cs0 : Scope} {cl0 : List (Str × Addr)} {m : Str → Option Value} {news : List (Addr × Obj)} {s : Shared} {Q : Flow → Shared → Prop} {E : Value → Shared → Prop} {st : Stmt} {sc : Scope}
set_option maxRecDepth 100000 in
set_option maxHeartbeats 8000000 in
theorem an3 (hst : anSt 3 = some st) (hsc : anScope = some sc) (hd : dp + 12 < recursionLimit) (hu : un + 8 * 12 < cLine) (B : Below (ktrTop dp un gd cn0 cs0 L0 a0 ccd0 cl0 outer0) base (envX cn0 cs0 L0 a0 ccd0 cl0 :: outer0) h₀) (hk0 : cs0.kind = .function) (hks : sc.kind = .function) (X : (Mine.hd.heap_1 w.params).In h₀) (T : Top Mine.hd.view_1 (looseW Mine.hd.view_1 []) mean mg mb h₀) (F : Fr h₀ L s.heap m) (N : News h₀ L s.heap news) {lp lf lm x dx S D G : Addr} {oS oG oR oF oM : Obj} {xs ds : List Str} {ysD vs vF vM : List Value} {idx : List (Int × Int)} {mods : List Str} {fls : List (Option Str)} {t1 t2 t3 : Nat} {t6 : Tok}
 (h1 : m (Str.ofString "pairs") = some (.ref lp)) (hp : PairsIn h₀ vs idx) (hl : h₀.IsList lp vs.toArray) (hlen : idx.length ≤ 100)
 (hn : news = [(G, oG), (D, lst ysD), (S, oS), (x, instObj 79 dx), (dx, dictOf (ignEs w S D G t1 t2 t3) 3), (L + 1 + 1 + 1, oR), (L + 1 + 1, oF), (L + 1, oM)])
 (dR : oR.data = .cell (some (.ref x))) (dF : oF.data = .cell (some (.ref lf))) (dM : oM.data = .cell (some (.ref lm)))
 (hlf : h₀.IsList lf vF.toArray) (hlm : h₀.IsList lm vM.toArray) (hvM : StrsAre vM mods) (hvF : OptsAre vF fls) (hidx : ∀ c ∈ idx, 0 ≤ c.1 ∧ c.1 < mods.length ∧ 0 ≤ c.2 ∧ c.2 < fls.length) (hml : mods.length ≤ 100) (hfl : fls.length ≤ 100)
 (hmd : ∀ y ∈ mods, y.length ≤ 100) (hfd : ∀ o ∈ fls, ∀ y ∈ o, y.length ≤ 100)
 (hne : D ≠ G ∧ S ≠ G ∧ x ≠ G ∧ dx ≠ G ∧ L + 1 + 1 + 1 ≠ G ∧ L + 1 + 1 ≠ G ∧ L + 1 ≠ G) (hSS : SetS PySem.Challenge.rw_pg0115_01.row.prog w oS xs) (hys : StrsAre ysD ds) (nSD : S ≠ x ∧ S ≠ dx ∧ D ≠ x ∧ D ≠ dx) (lo : (G == sysModules) = false) (hx2 : ∃ a b, a ∈ xs ∧ b ∈ xs ∧ a ≠ b) (hxl : xs.length ≤ 100) (hdl : ds.length ≤ 100) (hl1 : ∀ y ∈ xs, y.length ≤ 100) (hl2 : ∀ y ∈ ds, y.length ≤ 100)
 (hD : oG.IsDictOf (PySem.strKind PySem.Challenge.rw_pg0115_01.row.prog w) [(Str.ofString "<string>", .int 1 t6)])
 (ret : ∀ h' tk' d' t m', Fr h₀ L h' m' → Q (.ret (.str (bitsT (runB (ignLeft xs ds) f0 (asksS mods fls idx)).2) t)) { s with heap := h', toks := tk', drawn := d' }) :
    wpAny (model PySem.Challenge.rw_pg0115_01.row.prog w) ((ktrTop dp un gd cn0 cs0 L0 a0 ccd0 cl0 outer0).deeper (envOfC anName sc L fa cd)) (exec st (envOfC anName sc L fa cd)) Q E s := by
  subst hn
  revert X
  k_fill
  intro X
  cases hst
  cases hsc
  (try dsimp only)
  have F := fr_know1 F h1
  k_steps
  refine ⟨lp, vs, _, AnsJ PySem.Challenge.rw_pg0115_01.row.prog w (ignLeft xs ds) (asksS mods fls idx) G [(D, lst ysD), (S, oS), (x, instObj 79 dx), (dx, dictOf (ignEs w S D G t1 t2 t3) 3), (L + 1 + 1 + 1, oR), (L + 1 + 1, oF), (L + 1, oM)], rfl, F, N, ⟨oG, _, rfl, hD, Nat.le_refl _, first0 t6, .nil⟩, by rw [sizeLine_eq, hp.length]; omega, ⟨?_, ?_⟩, ?_⟩
  · rintro i ys nx h _ F _
    obtain ⟨o, ho, r⟩ := hl
    exact ⟨o, F.keep _ _ ho, r⟩
  · rintro i ys nx h v ⟨oG', kvs, rfl, hD', hkl, hf', hyS⟩ hv F N
    obtain ⟨a, p, q, u1, u2, n, rfl, hx, ha⟩ := hp.at hv
    refine ⟨a, _, _, rfl, ⟨_, F.keep _ _ ha, rfl, n, rfl⟩, ?_⟩
    have hi : i < idx.length := by
      obtain ⟨h, _⟩ := List.getElem?_eq_some_iff.mp hx
      exact h
    obtain ⟨p0, p1, q0, q1⟩ := hidx _ (List.mem_of_getElem? hx)
    simp only at p0 p1 q0 q1
    have hmx : mods[p.toNat]? = some (mods.getD p.toNat Str.empty) := by
      rw [List.getD_eq_getElem?_getD, List.getElem?_eq_getElem (by omega)]; rfl
    obtain ⟨fo, hfx⟩ : ∃ fo, fls[q.toNat]? = some fo := ⟨_, List.getElem?_eq_getElem (by omega)⟩
    have hask : (asksS mods fls idx)[i]? = some (mods.getD p.toNat Str.empty, fo) := by
      unfold asksS
      rw [List.getElem?_map, hx, Option.map_some]
      simp only [List.getD_eq_getElem?_getD, hfx, Option.getD_some]
    obtain ⟨tf, hf9⟩ := opts_at hvF hfx
    have hmy := hmd _ (List.mem_of_getElem? hmx)
    have hfy := hfd _ (List.mem_of_getElem? hfx)
    have b1 : 0 ≤ p ∧ p < 2 ^ 63 := ⟨p0, by omega⟩
    have b2 : 0 ≤ q ∧ q < 2 ^ 63 := ⟨q0, by omega⟩
    have hkl1 : kvs.length ≤ 1000 := by omega
    intro I oI C oC D2 m₂ h tk d E' hC hv1 hv2 F N off ne
    (try simp only [Off3, and_true] at off)
    (try dsimp only)
    have hne9 : ∀ p ∈ (I, oI) :: (C, oC) :: (D2, lst ys) :: [(D, lst ysD), (S, oS), (x, instObj 79 dx), (dx, dictOf (ignEs w S D G t1 t2 t3) 3), (L + 1 + 1 + 1, oR), (L + 1 + 1, oF), (L + 1, oM)], p.1 ≠ G := fun p hp => by
      obtain ⟨o1, o2, o3⟩ := off.1
      obtain ⟨n1, n2, n3, n4, n5, n6, n7⟩ := hne
      simp only [List.mem_cons, List.not_mem_nil, or_false] at hp
      rcases hp with rfl | rfl | rfl | rfl | rfl | rfl | rfl | rfl | rfl | rfl
      · exact o1.symm
      · exact o2.symm
      · exact o3.symm
      all_goals assumption
    clear ret
    k_steps
    all_goals
      (rename Fr _ _ _ _ => kF); (rename News _ _ _ _ => kN); (try dsimp only)
      (rename Obj.IsDictOf _ _ _ => kD)
      (rename FirstOk _ _ _ => kf)
      (rename (_ : Bool) = Option.getD _ _ => hb)
      refine ⟨_, _, _, _, rfl, kF, kN, by simp only [Off3, and_true]; exact off, ⟨_, _, rfl, kD, by omega, ?_, ?_⟩⟩
      · rw [runB_take _ _ hask]
        simp only [ansStep, ← hb]
        exact kf
      · rw [runB_take _ _ hask]
        simp only [ansStep, ← hb, List.map_append]
        exact strs_app (by assumption)
  · rintro D h tk d ys nx' F1 N1 o1 ⟨oG', kvs, rfl, _, _, _, hS⟩
    have ea : (asksS mods fls idx).take vs.length = asksS mods fls idx := by
      rw [hp.length, show idx.length = (asksS mods fls idx).length by simp [asksS], List.take_length]
    rw [ea] at hS
    have hjl : ((runB (ignLeft xs ds) f0 (asksS mods fls idx)).2.map bitT).length ≤ 100 := by simp [runB_len, asksS]; exact hlen
    clear N
    k_steps
    rw [join_bits]
    exact ret _ _ _ _ _ F1
end
end Mine
open PySem PySem.W PyProof.Rows
set_option Elab.async false
namespace Mine
open PyProof.Rows.LCg
theorem join_len_le {sep : Str} {xs : List Str} {n : Nat} (h : (xs.map (·.length)).sum + xs.length * sep.length ≤ n) : (Txt.join sep xs).length ≤ n := by
  show (Builtin.Str.glued sep xs).length ≤ n
  rw [StrLaws.glued_eq_join]
  exact Nat.le_trans (StrLaws.join_length_le sep xs) h
theorem mod_len (k : Nat) (n : Int) : (modT k n).length ≤ 50 := by
  have h4 : (Str.ofString "hue").length = 3 := by decide
  have h5 : (Str.ofString ".").length = 1 := by decide
  have h1 := dg_len (n.fmod 4)
  have h2 := dg_len ((n.fdiv 4).fmod 4)
  have h3 := dg_len (((n.fdiv 4).fdiv 4).fmod 4)
  unfold modT
  split
  · refine join_len_le ?_
    simp only [List.map, List.sum_cons, List.sum_nil, List.length, h4, h5]; omega
  · refine join_len_le ?_
    simp only [List.map, List.sum_cons, List.sum_nil, List.length, h4, h5]; omega
  · refine join_len_le ?_
    simp only [List.map, List.sum_cons, List.sum_nil, List.length, h4, h5]; omega
  · show Str.empty.length ≤ 50; decide
theorem fldk_len (k : Nat) (n : Int) : (fldT k n).length ≤ 50 := by
  have h4 : (Str.ofString "light").length = 5 := by decide
  have h6 : (Str.ofString "").length = 0 := by decide
  have h5 : (Str.ofString "/").length = 1 := by decide
  have h1 := dg_len (n.fmod 4)
  have h2 := dg_len ((n.fdiv 4).fmod 4)
  unfold fldT
  split
  · refine join_len_le ?_
    simp only [List.map, List.sum_cons, List.sum_nil, List.length, h4, h5, h6]; omega
  · refine join_len_le ?_
    simp only [List.map, List.sum_cons, List.sum_nil, List.length, h4, h5, h6]; omega
  · show Str.empty.length ≤ 50; decide
noncomputable def AnsPre (lc ls lm lf lp : Addr) (vC vS vM vF vP : List Value) (cc ss idx : List (Int × Int)) (h : Heap) : Prop :=
  PairsIn h vC cc ∧ h.IsList lc vC.toArray ∧ PairsIn h vS ss ∧ h.IsList ls vS.toArray ∧ h.IsList lm vM.toArray ∧ h.IsList lf vF.toArray ∧ PairsIn h vP idx ∧ h.IsList lp vP.toArray
theorem strs_cons {vs : List Value} {x : Str} {xs : List Str} (h : StrsAre vs (x :: xs)) : ∃ v r, vs = v :: r ∧ r.length = xs.length := by
  cases h with
  | cons y t hr => exact ⟨_, _, rfl, strs_len hr⟩
set_option maxRecDepth 100000 in
set_option maxHeartbeats 8000000 in
theorem c_ans (w : World) {lc ls lm lf lp : Addr} {vC vS vM vF vP : List Value} {c d : Int × Int} {cr sr idx : List (Int × Int)} {mods : List Str} {fls : List (Option Str)}
   (hb : ∀ c' ∈ c :: cr, 1 ≤ c'.2 ∧ c'.2 ≤ 3) (hb2 : ∀ c' ∈ d :: sr, 1 ≤ c'.2 ∧ c'.2 ≤ 2) (hcl : cr.length ≤ 90) (hsl : sr.length ≤ 90) (hx2 : ∃ a b, a ∈ (c :: cr).map modX ∧ b ∈ (c :: cr).map modX ∧ a ≠ b)
   (hvM : StrsAre vM mods) (hvF : OptsAre vF fls) (hidx : ∀ c ∈ idx, 0 ≤ c.1 ∧ c.1 < mods.length ∧ 0 ≤ c.2 ∧ c.2 < fls.length) (hlen : idx.length ≤ 100) (hml : mods.length ≤ 100) (hfl : fls.length ≤ 100)
   (hmd : ∀ y ∈ mods, y.length ≤ 100) (hfd : ∀ o ∈ fls, ∀ y ∈ o, y.length ≤ 100) :
   CtrD w 151 12 [.ref lc, .ref ls, .ref lm, .ref lf, .ref lp] (AnsPre lc ls lm lf lp vC vS vM vF vP (c :: cr) (d :: sr) idx) (OutS' (bitsT (runB (ignLeft ((c :: cr).map modX) ((d :: sr).map fldX)) f0 (asksS mods fls idx)).2)) := by
  unfold CtrD
  k_fill
  intro mean mg mb dp un gd cn cs a ccd cl outer A₀ base h₀ L m s Q E B F X T hk hpre hd hu hret
  refine wpAny_call ?_
  k_dflt (refine' callVC (P := AnsPre lc ls lm lf lp vC vS vM vF vP (c :: cr) (d :: sr) idx) hpre ?k1 ?k2 ?k3 ?k5 ?kA ?kF ?kK ?k6 ?k7 ?k8 ?k9 ?kB ?kD ?_ ?c2 ?c3 ?c4; (case kA => exact rfl); (case kF => exact rfl); (case kK => assumption); (case k1 => k_asm); (case k2 => k_asm); (case k3 => k_asm); (case k5 => k_asm); (case k6 => k_is); (case k7 => k_is); (case k8 => ktr_room); (case k9 => exact BindsTo.of_eq rfl); (case kB => exact rfl); (case kD => decide +kernel); (case c2 => exact rfl); (case c3 => exact rfl); (case c4 => exact rfl); k_whole)
  intro g' L' h' tk' cells' hpre' hst' F' N' Y' B' X' T'
  clear B F X T hpre
  k_cells Y'
  (try simp only [List.cons_append, List.nil_append] at N')
  (try dsimp only)
  (try k_fold)
  obtain ⟨hp, hl, hp2, hl2, hlm, hlf, hpp, hlp⟩ := hpre'
  refine wpAny_execs_cons ?_
  refine an0 rfl rfl hd hu B' hk rfl X' T' F' N' hp hl hb (by simp only [List.length_cons]; omega) rfl fun h1 tk1 d1 D1 y1 F1 N1 n1 S1 => ?_
  refine wpAny_execs_cons ?_
  refine an1 rfl rfl hd hu B' hk rfl X' T' F1 N1 hp2 hl2 hb2 (by simp only [List.length_cons]; omega) rfl fun h2 tk2 d2 D2 y2 F2 N2 n2 S2 => ?_
  obtain ⟨v1, r1, rfl, l1⟩ := strs_cons S1
  obtain ⟨v2, r2, rfl, l2⟩ := strs_cons S2
  rw [List.length_map] at l1 l2
  refine wpAny_execs_cons ?_
  refine an2 rfl rfl hd hu B' hk rfl X' T' F2 N2 rfl rfl rfl (by assumption) S1 S2 (by unfold scanBound; simp only [List.length_map, List.length_cons]; omega) (n2 _ (.head _)).symm (by omega) (by omega) ?_ (fun q hq => n2 q (.tail _ hq)) n1 ?_
  · intro x hx
    obtain ⟨e, he, rfl⟩ := List.mem_map.mp hx
    have := hb2 e he
    exact np_fld _ (by omega) (by omega)
  intro x dx S D G oS oG ysD oR' h3 tk3 t9 t8 ti t6 F3 N3 dR hG hSS hys hDG lo nSD
  refine wpAny_execs_cons ?_
  refine an3 rfl rfl hd hu B' hk rfl X' T' F3 N3 rfl hpp hlp hlen rfl dR (by assumption) (by assumption) hlf hlm hvM hvF hidx hml hfl hmd hfd hG hSS hys nSD lo hx2 (by simp only [List.length_map, List.length_cons]; omega) (by simp only [List.length_map, List.length_cons]; omega) ?_ ?_ hDG fun h4 tk4 d4 t m4 F4 => ?_
  · intro x hx
    obtain ⟨e, he, rfl⟩ := List.mem_map.mp hx
    exact Nat.le_trans (mod_len _ _) (by decide)
  · intro x hx
    obtain ⟨e, he, rfl⟩ := List.mem_map.mp hx
    exact Nat.le_trans (fldk_len _ _) (by decide)
  exact hret _ [] _ _ _ (kept_of hst' F4) (fun _ h => nomatch h) ⟨_, rfl, rfl⟩
end Mine
open PySem PySem.W PyProof.Rows
set_option Elab.async false
namespace Mine
open PyProof.Rows.LCg
theorem at_map {nl : List (Addr × Obj)} : True := trivial
theorem news_list {h₀ h : Heap} {L : Addr} {news : List (Addr × Obj)} (N : News h₀ L h news) {l : Addr} {vs : List Value} {k : Nat} (hm : (l, W.listOf vs.toArray k) ∈ news) : h.IsList l vs.toArray := ⟨_, (N _ hm).1, rfl, _, rfl⟩
theorem diag_ok {n : Nat} : ∀ c ∈ diag n ++ cross n, 0 ≤ c.1 ∧ c.1 < n ∧ 0 ≤ c.2 ∧ c.2 < n := by
  intro c hc
  rcases List.mem_append.mp hc with hc | hc
  · obtain ⟨i, hi, rfl⟩ := List.mem_map.mp hc
    have := List.mem_range.mp hi
    simp only
    omega
  · obtain ⟨i, hi, rfl⟩ := List.mem_map.mp hc
    have := List.mem_range.mp hi
    simp only
    omega
noncomputable def modsOf (qs : List Spot) : List Str := qs.map fun q => modT 3 q.p
noncomputable def filesOf (qs : List Spot) : List (Option Str) := qs.map fun q => fileT q.k q.l
noncomputable def farModsOf (mi : Bool) (tn : Int) (qs : List Spot) : List Str := qs.map fun q => modT 3 (moveP mi tn q.p)
noncomputable def farFilesOf (fl : Bool) (qs : List Spot) : List (Option Str) := qs.map fun q => fileT q.k (moveL fl q.l)
theorem file_len {k : Bool} {l : Int} : ∀ y ∈ fileT k l, y.length ≤ 100 := by
  intro y hy
  unfold fileT at hy
  split at hy
  · rw [Option.mem_def, Option.some.injEq] at hy
    subst hy
    rw [Str.length_append]
    have := fld_len l
    have h : (Str.ofString "/spot.py").length = 8 := by decide
    omega
  · cases hy
section
variable {w : World} {mean : ExcName → Option Value} {mg mb : Str → Option Value} {h₀ : Heap} {L fa : Addr} {cd : Value} {m : Str → Option Value} {news : List (Addr × Obj)} {s : Shared} {Q : Flow → Shared → Prop} {E : Value → Shared → Prop} {st : Stmt} {sc : Scope}
set_option maxRecDepth 100000 in
set_option maxHeartbeats 8000000 in
theorem law_rest (hsc : lawScope = some sc) (B : Below callerA h₀ [] h₀) (X : (Mine.hd.heap_1 w.params).In h₀) (T : Top Mine.hd.view_1 (looseW Mine.hd.view_1 []) mean mg mb h₀) (F : Fr h₀ L s.heap m) (N : News h₀ L s.heap news) {rest : List Stmt} (hr : lawDef.map (fun d => d.1.drop 10) = some rest)
    {ls lc lt lm lf lx ly : Addr} {vs vC vS vM vF vX vY : List Value} {k1 k2 k3 k4 k5 k6 k7 : Nat} {oS oT oM oF : Obj} {tT : List (Addr × Obj)} {qs : List Spot} {c d : Int × Int} {cr sr : List (Int × Int)} {tn : Int} {tt : Tok} {mi fl : Bool}
    (m1 : m (Str.ofString "classes") = some (.ref lc)) (m2 : m (Str.ofString "stretches") = some (.ref lt)) (m3 : m (Str.ofString "modules") = some (.ref lm)) (m4 : m (Str.ofString "files") = some (.ref lf)) (m5 : m (Str.ofString "far_modules") = some (.ref lx)) (m6 : m (Str.ofString "far_files") = some (.ref ly))
    (hS : (L + 1, oS) ∈ news) (dS : oS.data = .cell (some (.ref ls))) (hT : (L + 1 + 1, oT) ∈ news) (dT : oT.data = .cell (some (.int tn tt))) (hM : (L + 1 + 1 + 1, oM) ∈ news) (dM : oM.data = .cell (some (.bool mi))) (hF : (L + 1 + 1 + 1 + 1, oF) ∈ news) (dF : oF.data = .cell (some (.bool fl)))
    (n1 : (ls, W.listOf vs.toArray k1) ∈ news) (n2 : (lc, W.listOf vC.toArray k2) ∈ news) (n3 : (lt, W.listOf vS.toArray k3) ∈ news) (n4 : (lm, W.listOf vM.toArray k4) ∈ news) (n5 : (lf, W.listOf vF.toArray k5) ∈ news) (n6 : (lx, W.listOf vX.toArray k6) ∈ news) (n7 : (ly, W.listOf vY.toArray k7) ∈ news)
    (hD : DatAll tT vs (qs.map Spot.dat)) (hTn : ∀ p ∈ tT, p ∈ news) (hPC : PairsL news vC (c :: cr)) (hPS : PairsL news vS (d :: sr)) (sM : StrsAre vM (modsOf qs)) (sF : OptsAre vF (filesOf qs)) (sX : StrsAre vX (farModsOf mi tn qs)) (sY : OptsAre vY (farFilesOf fl qs))
    (hb : ∀ x ∈ c :: cr, 1 ≤ x.2 ∧ x.2 ≤ 3) (hb2 : ∀ x ∈ d :: sr, 1 ≤ x.2 ∧ x.2 ≤ 2) (hok : ∀ q ∈ qs, q.Ok) (hcl : cr.length ≤ 30) (hsl : sr.length ≤ 30) (hql : qs.length ≤ 30)
    (x2 : ∃ a b, a ∈ (c :: cr).map modX ∧ b ∈ (c :: cr).map modX ∧ a ≠ b) (y2 : ∃ a b, a ∈ ((c :: cr).map (moveC mi tn)).map modX ∧ b ∈ ((c :: cr).map (moveC mi tn)).map modX ∧ a ≠ b)
    (E1 : (runB (ignLeft ((c :: cr).map modX) ((d :: sr).map fldX)) f0 (asksS (modsOf qs) (filesOf qs) (diag qs.length ++ cross qs.length))).2 = (runB (leftOf (c :: cr) (d :: sr)) (fun _ => none) (asksI qs (diag qs.length ++ cross qs.length))).2)
    (E2 : (runB (ignLeft (((c :: cr).map (moveC mi tn)).map modX) (((d :: sr).map (moveS fl)).map fldX)) f0 (asksS (farModsOf mi tn qs) (farFilesOf fl qs) (diag qs.length ++ cross qs.length))).2 = (runB (leftOf (c :: cr) (d :: sr)) (fun _ => none) (asksI qs (diag qs.length ++ cross qs.length))).2)
    (ret : ∀ h' tk' d' m', Fr h₀ L h' m' → Q (.ret (.bool true)) { s with heap := h', toks := tk', drawn := d' }) :
    wpAny (model PySem.Challenge.rw_pg0115_01.row.prog w) (callerA.deeper (envOfC (Str.ofString "law") sc L fa cd)) (execs rest (envOfC (Str.ofString "law") sc L fa cd)) Q E s := by
  cases hr
  have hvl : vs.length = qs.length := by have := hD.length; rwa [List.length_map] at this
  have hidx : ∀ c ∈ diag qs.length ++ cross qs.length, 0 ≤ c.1 ∧ c.1 < qs.length ∧ 0 ≤ c.2 ∧ c.2 < qs.length := diag_ok
  have hil : (diag qs.length ++ cross qs.length).length ≤ 100 := by simp only [diag, cross, List.length_append, List.length_map, List.length_range]; omega
  refine wpAny_execs_cons ?_
  refine law10 rfl hsc B X T F N n1 hS dS (by omega) fun h1 tk1 p1 ys1 nx1 F1 N1 s1 _ P1 => ?_
  refine wpAny_execs_cons ?_
  refine law11 rfl hsc B X T F1 N1 rfl (.head _) (P1.mono fun _ h => .tail _ h) (.tail _ (s1 _ n1)) (.tail _ (s1 _ hS)) dS (by omega) fun h2 tk2 p2 ys2 e2 nx2 F2 N2 s2 P2 => ?_
  have s2' : ∀ p ∈ news, p ∈ nx2 := fun p hp => s2 p (.tail _ (s1 p hp))
  rw [hvl] at P2
  refine wpAny_execs_cons ?_
  refine law12 rfl hsc B X T F2 N2 (lp := p2) (idx := diag qs.length ++ cross qs.length) rfl m1 m2 (.head _) (P2.mono fun _ h => .tail _ h) (.tail _ (s2' _ n1)) (fun p hp => .tail _ (s2' _ (hTn p hp))) hD (.tail _ (s2' _ hS)) dS (.tail _ (s2' _ n2)) (hPC.mono fun p hp => .tail _ (s2' p hp)) (.tail _ (s2' _ n3)) (hPS.mono fun p hp => .tail _ (s2' p hp)) hb hb2 hok hidx hil (by omega) fun h3 tk3 d3 t3 nx3 F3 N3 s3 => ?_
  have s3' : ∀ p ∈ news, p ∈ nx3 := fun p hp => s3 p (.tail _ (s2' p hp))
  refine wpAny_execs_cons ?_
  have C1 := c_ans w (lc := lc) (ls := lt) (lm := lm) (lf := lf) (lp := p2) (vC := vC) (vS := vS) (vP := ys2) (idx := diag qs.length ++ cross qs.length) hb hb2 (by omega) (by omega) x2 sM sF (by simpa [modsOf, filesOf] using hidx) hil (by simp [modsOf]; omega) (by simp [filesOf]; omega)
    (fun y hy => by obtain ⟨q, _, rfl⟩ := List.mem_map.mp hy; exact Nat.le_trans (mod_len _ _) (by decide)) (fun o ho => by obtain ⟨q, _, rfl⟩ := List.mem_map.mp ho; exact file_len)
  rw [E1] at C1
  refine law13 rfl hsc B X T F3 N3 C1 ⟨(hPC.mono s3').toIn N3, news_list N3 (s3' _ n2), (hPS.mono s3').toIn N3, news_list N3 (s3' _ n3), news_list N3 (s3' _ n4), news_list N3 (s3' _ n5), (P2.mono fun p hp => s3 _ (.tail _ hp)).toIn N3, news_list N3 (s3 _ (.head _))⟩ m1 m2 m3 m4 rfl rfl fun h4 tk4 d4 F4 N4 => ?_
  refine wpAny_execs_cons ?_
  refine law14 rfl hsc B X T F4 N4 m1 (s3' _ n2) (hPC.mono s3') (s3' _ hT) dT (s3' _ hM) dM hb (by simp only [List.length_cons]; omega) fun h5 tk5 d5 p5 ys5 nx5 F5 N5 s5 P5 => ?_
  have s5' : ∀ p ∈ news, p ∈ nx5 := fun p hp => s5 p (s3' p hp)
  refine wpAny_execs_cons ?_
  refine law15 rfl hsc B X T F5 N5 m2 (.tail _ (s5' _ n3)) (hPS.mono fun p hp => .tail _ (s5' p hp)) (.tail _ (s5' _ hF)) dF hb2 (by simp only [List.length_cons]; omega) fun h6 tk6 d6 p6 ys6 nx6 F6 N6 s6 P6 => ?_
  have s6' : ∀ p ∈ news, p ∈ nx6 := fun p hp => s6 p (.tail _ (s5' p hp))
  have N6' : News h₀ L h6 nx6 := fun p hp => N6 p (.tail _ hp)
  refine wpAny_execs_cons ?_
  have C2 := c_ans w (lc := p5) (ls := p6) (lm := lx) (lf := ly) (lp := p2) (vC := ys5) (vS := ys6) (vP := ys2) (c := moveC mi tn c) (cr := cr.map (moveC mi tn)) (d := moveS fl d) (sr := sr.map (moveS fl)) (idx := diag qs.length ++ cross qs.length)
    (fun x hx => by rw [← List.map_cons] at hx; obtain ⟨z, hz, rfl⟩ := List.mem_map.mp hx; exact hb z hz) (fun x hx => by rw [← List.map_cons] at hx; obtain ⟨z, hz, rfl⟩ := List.mem_map.mp hx; exact hb2 z hz) (by rw [List.length_map]; omega) (by rw [List.length_map]; omega) y2 sX sY (by simpa [farModsOf, farFilesOf] using hidx) hil (by simp [farModsOf]; omega) (by simp [farFilesOf]; omega)
    (fun y hy => by obtain ⟨q, _, rfl⟩ := List.mem_map.mp hy; exact Nat.le_trans (mod_len _ _) (by decide)) (fun o ho => by obtain ⟨q, _, rfl⟩ := List.mem_map.mp ho; exact file_len)
  rw [← List.map_cons, ← List.map_cons, E2] at C2
  refine law16 rfl hsc B X T F6 N6 C2 ⟨(P5.mono fun p hp => s6 p (.tail _ hp)).toIn N6', news_list N6' (s6 _ (.head _)), P6.toIn N6', news_list N6 (.head _), news_list N6' (s6' _ n6), news_list N6' (s6' _ n7), (P2.mono fun p hp => s6 _ (.tail _ (s5 _ (s3 _ (.tail _ hp))))).toIn N6', news_list N6' (s6 _ (.tail _ (s5 _ (s3 _ (.head _)))))⟩ rfl rfl m5 m6 rfl rfl fun h7 tk7 d7 F7 N7 => ?_
  exact ret _ _ _ _ F7
end
end Mine
open PySem PySem.W PyProof.Rows
set_option Elab.async false
namespace Mine
theorem opts_app {vs ws : List Value} {xs ys : List (Option Str)} (h : OptsAre vs xs) (h' : OptsAre ws ys) : OptsAre (vs ++ ws) (xs ++ ys) := by
  induction h with
  | nil => exact h'
  | some y t _ ih => exact .some y t ih
  | none _ ih => exact .none ih
theorem opts_len {vs : List Value} {xs : List (Option Str)} (h : OptsAre vs xs) : vs.length = xs.length := by
  induction h with
  | nil => rfl
  | some y t _ ih => simp [ih]
  | none _ ih => simp [ih]
theorem take_len15 {α : Type} {qs : List α} {i : Nat} (h : qs.length ≤ 15) : (qs.take i).length ≤ 15 := by rw [List.length_take]; omega
section
variable {w : World} {mean : ExcName → Option Value} {mg mb : Str → Option Value} {h₀ : Heap} {L fa : Addr} {cd : Value} {m : Str → Option Value} {news : List (Addr × Obj)} {s : Shared} {Q : Flow → Shared → Prop} {E : Value → Shared → Prop} {st : Stmt} {sc : Scope}
set_option maxRecDepth 100000 in
set_option maxHeartbeats 8000000 in
theorem law_join (hsc : lawScope = some sc) (B : Below callerA h₀ [] h₀) (X : (Mine.hd.heap_1 w.params).In h₀) (T : Top Mine.hd.view_1 (looseW Mine.hd.view_1 []) mean mg mb h₀) {target iter : Expr} {body orelse : List Stmt} {pos : Pos} (hf : lawSt 9 = some (.For target iter body orelse pos)) (ht : isTupT target = true) {rest : List Stmt} (hr : lawDef.map (fun d => d.1.drop 10) = some rest) (htk : 1 ≤ s.toks)
    {ls lc lt lm lf lx ly : Addr} {vs vC vS : List Value} {e1 e2 e3 e4 k1 k2 k3 : Nat} {oS oT oM oF : Obj} {tT rs : List (Addr × Obj)} {qs : List Spot} {c d : Int × Int} {cr sr : List (Int × Int)} {tn : Int} {tt : Tok} {mi fl : Bool} {m₀ : Str → Option Value}
    (F : Fr h₀ L s.heap m₀) (N : News h₀ L s.heap ((ly, W.listOf #[] e4) :: (lx, W.listOf #[] e3) :: (lf, W.listOf #[] e2) :: (lm, W.listOf #[] e1) :: rs))
    (m1 : m₀ (Str.ofString "classes") = some (.ref lc)) (m2 : m₀ (Str.ofString "stretches") = some (.ref lt)) (m3 : m₀ (Str.ofString "modules") = some (.ref lm)) (m4 : m₀ (Str.ofString "files") = some (.ref lf)) (m5 : m₀ (Str.ofString "far_modules") = some (.ref lx)) (m6 : m₀ (Str.ofString "far_files") = some (.ref ly))
    (hS : (L + 1, oS) ∈ rs) (dS : oS.data = .cell (some (.ref ls))) (hT : (L + 1 + 1, oT) ∈ rs) (dT : oT.data = .cell (some (.int tn tt))) (hM : (L + 1 + 1 + 1, oM) ∈ rs) (dM : oM.data = .cell (some (.bool mi))) (hF : (L + 1 + 1 + 1 + 1, oF) ∈ rs) (dF : oF.data = .cell (some (.bool fl)))
    (n1 : (ls, W.listOf vs.toArray k1) ∈ rs) (n2 : (lc, W.listOf vC.toArray k2) ∈ rs) (n3 : (lt, W.listOf vS.toArray k3) ∈ rs)
    (hD : DatAll tT vs (qs.map Spot.dat)) (hTn : ∀ p ∈ tT, p ∈ rs) (hPC : PairsL rs vC (c :: cr)) (hPS : PairsL rs vS (d :: sr))
    (r1 : ∀ q ∈ rs, q.1 ≠ ly) (r2 : ∀ q ∈ rs, q.1 ≠ lx) (r3 : ∀ q ∈ rs, q.1 ≠ lf) (r4 : ∀ q ∈ rs, q.1 ≠ lm) (d5 : ly ≠ lx) (d6 : ly ≠ lf) (d7 : ly ≠ lm) (d8 : lx ≠ lf) (d9 : lx ≠ lm) (d10 : lf ≠ lm) (tn0 : 0 ≤ tn) (tn1 : tn < 64)
    (hb : ∀ x ∈ c :: cr, 1 ≤ x.2 ∧ x.2 ≤ 3) (hb2 : ∀ x ∈ d :: sr, 1 ≤ x.2 ∧ x.2 ≤ 2) (hok : ∀ q ∈ qs, q.Ok) (hcl : cr.length ≤ 30) (hsl : sr.length ≤ 30) (hql : qs.length ≤ 15)
    (x2 : ∃ a b, a ∈ (c :: cr).map modX ∧ b ∈ (c :: cr).map modX ∧ a ≠ b) (y2 : ∃ a b, a ∈ ((c :: cr).map (moveC mi tn)).map modX ∧ b ∈ ((c :: cr).map (moveC mi tn)).map modX ∧ a ≠ b)
    (E1 : (runB (ignLeft ((c :: cr).map modX) ((d :: sr).map fldX)) f0 (asksS (modsOf qs) (filesOf qs) (diag qs.length ++ cross qs.length))).2 = (runB (leftOf (c :: cr) (d :: sr)) (fun _ => none) (asksI qs (diag qs.length ++ cross qs.length))).2)
    (E2 : (runB (ignLeft (((c :: cr).map (moveC mi tn)).map modX) (((d :: sr).map (moveS fl)).map fldX)) f0 (asksS (farModsOf mi tn qs) (farFilesOf fl qs) (diag qs.length ++ cross qs.length))).2 = (runB (leftOf (c :: cr) (d :: sr)) (fun _ => none) (asksI qs (diag qs.length ++ cross qs.length))).2)
    {Qr : Flow → Shared → Prop} {Ex : Value → Shared → Prop} (hQ : ∀ s', (∀ tk, wpAny (model PySem.Challenge.rw_pg0115_01.row.prog w) (callerA.deeper (envOfC (Str.ofString "law") sc L fa cd)) (execs rest (envOfC (Str.ofString "law") sc L fa cd)) Qr Ex { s' with toks := tk }) → Q .next s')
    (ret : ∀ h' tk' d' m', Fr h₀ L h' m' → Qr (.ret (.bool true)) { s with heap := h', toks := tk', drawn := d' }) :
    wpAny (model PySem.Challenge.rw_pg0115_01.row.prog w) (callerA.deeper (envOfC (Str.ofString "law") sc L fa cd)) (pyIter (.ref ls)) (fun it s₂ => codeAny (model PySem.Challenge.rw_pg0115_01.row.prog w) (callerA.deeper (envOfC (Str.ofString "law") sc L fa cd)) (.forLoop target it body [] (envOfC (Str.ofString "law") sc L fa cd)) (fun r s' => match r with | .ok f => Q f s' | .error e => cameBackBy (model PySem.Challenge.rw_pg0115_01.row.prog w) (callerA.deeper (envOfC (Str.ofString "law") sc L fa cd)) (envOfC (Str.ofString "law") sc L fa cd) E e s') s₂) E s := by
  refine law_loop htk tn mi fl F N n1 hD rfl ht ?_ ?_
  · intro i q a t1 t2 t3 n u vM vF vX vY e1 e2 e3 e4 h tk I oI htk hq ha hM' hF' hX' hY' F' N' hn
    obtain ⟨g1, g2, g3, g4, _⟩ := id hn
    have qok := hok q (List.mem_of_getElem? hq)
    refine law_turn hsc B X T hf F' N' htk m3 m4 m5 m6 hT dT hM dM hF dF r1 r2 r3 r4 g1.symm g2.symm g3.symm g4.symm d5 d6 d7 d8 d9 d10 (by rw [opts_len hY', List.length_map]; exact take_len15 hql) (by rw [strs_len hX', List.length_map]; exact take_len15 hql) (by rw [opts_len hF', List.length_map]; exact take_len15 hql) (by rw [strs_len hM', List.length_map]; exact take_len15 hql) tn0 tn1 (hTn _ ha) qok ?_
    intro h' tk' u' tM tX zF zY f1 f2 f3 f4 htk' oF oY F'' N''
    have tk1 : qs.take (i + 1) = qs.take i ++ [q] := by rw [List.take_add_one, hq]; rfl
    show TEnd _ _ _ _ _ _ _
    refine ⟨h', tk', _, _, _, rfl, F'', N'', .head _, fun p hp => .tail _ hp, hn, ⟨u', _, _, _, _, _, _, _, _, rfl, rfl, ?_, ?_, ?_, ?_⟩⟩
    · exact strs_take hM' hq rfl
    · rw [tk1, List.map_append]; exact opts_app hF' oF
    · exact strs_take hX' hq rfl
    · rw [tk1, List.map_append]; exact opts_app hY' oY
  · intro u vM vF vX vY e1 e2 e3 e4 h tk sM sF sX sY F' N'
    refine hQ _ fun tk9 => ?_
    have up : ∀ p ∈ rs, p ∈ (ly, W.listOf vY.toArray e4) :: (lx, W.listOf vX.toArray e3) :: (lf, W.listOf vF.toArray e2) :: (lm, W.listOf vM.toArray e1) :: rs := fun p hp => .tail _ (.tail _ (.tail _ (.tail _ hp)))
    exact law_rest (m := fun y => if lawNames.contains y = true then u y else m₀ y) hsc B X T F' N' hr m1 m2 m3 m4 m5 m6 (up _ hS) dS (up _ hT) dT (up _ hM) dM (up _ hF) dF (up _ n1) (up _ n2) (up _ n3) (.tail _ (.tail _ (.tail _ (.head _)))) (.tail _ (.tail _ (.head _))) (.tail _ (.head _)) (.head _) hD (fun p hp => up _ (hTn p hp)) (hPC.mono up) (hPS.mono up) sM sF sX sY hb hb2 hok hcl hsl (by omega) x2 y2 E1 E2 ret
end
end Mine
open PySem PySem.W PyProof.Rows
set_option Elab.async false
namespace Mine
set_option maxRecDepth 100000
theorem cls_dec1 : ∀ p : Fin 64, ∀ n : Fin 4, (decide (modT 3 (p.val : Int) = modT 1 (n.val : Int)) || Txt.startswith (modT 3 (p.val : Int)) (modT 1 (n.val : Int) ++ Str.ofString ".")) = (((p.val : Int) - n.val).fmod 4 == 0) := by
  decide +kernel
theorem cls_dec2 : ∀ p : Fin 64, ∀ n : Fin 16, (decide (modT 3 (p.val : Int) = modT 2 (n.val : Int)) || Txt.startswith (modT 3 (p.val : Int)) (modT 2 (n.val : Int) ++ Str.ofString ".")) = (((p.val : Int) - n.val).fmod 16 == 0) := by
  decide +kernel
theorem str_dec1 : ∀ l : Fin 16, ∀ n : Fin 4, Txt.startswith (fldT 2 (l.val : Int) ++ Str.ofString "/spot.py") (fldT 1 (n.val : Int) ++ Str.ofString "/") = ((l.val : Int).fdiv 4 == n.val) := by
  decide +kernel
theorem str_dec2 : ∀ l : Fin 16, ∀ n : Fin 16, Txt.startswith (fldT 2 (l.val : Int) ++ Str.ofString "/spot.py") (fldT 2 (n.val : Int) ++ Str.ofString "/") = ((l.val : Int).fdiv 1 == n.val) := by
  decide +kernel
theorem mod_string : ∀ p : Fin 64, modT 3 (p.val : Int) ≠ Str.ofString "<string>" := by
  decide +kernel
/-- the number out of the text, and its dots -/
noncomputable def decM (x : Str) : Nat × Nat × Nat := x.cps.toList.foldl (fun s c => if c = 46 then (s.1 + s.2.1 * s.2.2, s.2.1 * 4, 0) else if c = 48 then (s.1, s.2.1, 2 * s.2.2) else if c = 49 then (s.1, s.2.1, 2 * s.2.2 + 1) else s) (0, 1, 0)
noncomputable def dots (x : Str) : Nat := x.cps.toList.count 46
theorem mod_dec : ∀ p : Fin 64, (decM (modT 3 (p.val : Int))).1 + (decM (modT 3 (p.val : Int))).2.1 * (decM (modT 3 (p.val : Int))).2.2 = 4 * p.val := by
  decide +kernel
theorem mod_dots : ∀ p : Fin 64, dots (modT 3 (p.val : Int)) = 3 ∧ dots (modT 3 (p.val : Int) ++ Str.ofString ".") = 4 := by
  decide +kernel
theorem mod_inj (p q : Fin 64) (e : modT 3 (p.val : Int) = modT 3 (q.val : Int)) : p = q := by
  have h1 := mod_dec p
  have h2 := mod_dec q
  rw [e, h2] at h1
  exact Fin.ext (by omega)
theorem starts_dots {x y : Str} (h : Txt.startswith x y = true) : dots y ≤ dots x := by
  unfold Txt.startswith at h
  rw [Bool.and_eq_true, StrLaws.subAt_eq, List.drop_zero] at h
  unfold dots
  rw [← eq_of_beq h.2]
  exact (List.take_sublist _ _).count_le _
theorem cls_dec3 (p n : Fin 64) : (decide (modT 3 (p.val : Int) = modT 3 (n.val : Int)) || Txt.startswith (modT 3 (p.val : Int)) (modT 3 (n.val : Int) ++ Str.ofString ".")) = (((p.val : Int) - n.val).fmod 64 == 0) := by
  have hs : Txt.startswith (modT 3 (p.val : Int)) (modT 3 (n.val : Int) ++ Str.ofString ".") = false := by
    cases h : Txt.startswith (modT 3 (p.val : Int)) (modT 3 (n.val : Int) ++ Str.ofString ".") with
    | false => rfl
    | true =>
      have := starts_dots h
      rw [(mod_dots p).1, (mod_dots n).2] at this
      omega
  rw [hs, Bool.or_false, Bool.eq_iff_iff, decide_eq_true_eq, beq_iff_eq, Int.fmod_eq_emod_of_nonneg _ (by decide)]
  have h1 := p.isLt
  have h2 := n.isLt
  constructor
  · intro e
    rw [mod_inj p n e]
    omega
  · intro e
    have : p = n := Fin.ext (by omega)
    rw [this]
theorem mod_13 : ∀ p : Fin 4, ∀ q : Fin 64, modT 1 (p.val : Int) ≠ modT 3 (q.val : Int) := by
  decide +kernel
end Mine
open PySem PySem.W PyProof.Rows
set_option Elab.async false
namespace Mine
noncomputable def ClsOk (c : Int × Int) : Prop := 1 ≤ c.2 ∧ c.2 ≤ 3 ∧ 0 ≤ c.1 ∧ c.1 < 4 ^ c.2.toNat
noncomputable def StrOk (c : Int × Int) : Prop := 1 ≤ c.2 ∧ c.2 ≤ 2 ∧ 0 ≤ c.1 ∧ c.1 < 4 ^ c.2.toNat
noncomputable def fileN (l : Int) : Str := fldT 2 l ++ Str.ofString "/spot.py"
theorem to_fin {n : Nat} {p : Int} (h0 : 0 ≤ p) (h1 : p < n) : ∃ q : Fin n, p = (q.val : Int) := ⟨⟨p.toNat, by omega⟩, by simp only; omega⟩
theorem cls_hit {p : Int} (p0 : 0 ≤ p) (p1 : p < 64) {c : Int × Int} (hc : ClsOk c) : (decide (modT 3 p = modX c) || Txt.startswith (modT 3 p) (modX c ++ Str.ofString ".")) = hitC p c := by
  obtain ⟨n, k⟩ := c
  obtain ⟨k0, k1, n0, n1⟩ := hc
  simp only at k0 k1 n0 n1
  obtain ⟨p, rfl⟩ := to_fin (n := 64) p0 p1
  rcases (show k = 1 ∨ k = 2 ∨ k = 3 by omega) with rfl | rfl | rfl
  · obtain ⟨n, rfl⟩ := to_fin (n := 4) n0 n1
    exact cls_dec1 p n
  · obtain ⟨n, rfl⟩ := to_fin (n := 16) n0 n1
    exact cls_dec2 p n
  · obtain ⟨n, rfl⟩ := to_fin (n := 64) n0 n1
    exact cls_dec3 p n
theorem str_hit {l : Int} (l0 : 0 ≤ l) (l1 : l < 16) {c : Int × Int} (hc : StrOk c) : Txt.startswith (fileN l) (fldX c ++ Str.ofString "/") = hitS l c := by
  obtain ⟨n, k⟩ := c
  obtain ⟨k0, k1, n0, n1⟩ := hc
  simp only at k0 k1 n0 n1
  obtain ⟨l, rfl⟩ := to_fin (n := 16) l0 l1
  rcases (show k = 1 ∨ k = 2 by omega) with rfl | rfl
  · obtain ⟨n, rfl⟩ := to_fin (n := 4) n0 n1
    exact str_dec1 l n
  · obtain ⟨n, rfl⟩ := to_fin (n := 16) n0 n1
    exact str_dec2 l n
theorem cls_any {p : Int} (p0 : 0 ≤ p) (p1 : p < 64) : ∀ {cc : List (Int × Int)}, (∀ c ∈ cc, ClsOk c) → (decide (modT 3 p ∈ cc.map modX) || (cc.map modX).any (fun y => Txt.startswith (modT 3 p) (y ++ Str.ofString "."))) = cc.any (hitC p)
  | [], _ => by simp
  | c :: r, h => by
    have ih := cls_any p0 p1 (cc := r) fun c hc => h c (.tail _ hc)
    have h1 := cls_hit p0 p1 (h c (.head _))
    rw [List.any_cons, ← h1, ← ih, List.map_cons, List.any_cons]
    have e : decide (modT 3 p ∈ modX c :: r.map modX) = (decide (modT 3 p = modX c) || decide (modT 3 p ∈ r.map modX)) := by
      rw [← Bool.decide_or]
      exact decide_eq_decide.mpr List.mem_cons
    rw [e]
    cases decide (modT 3 p = modX c) <;> cases decide (modT 3 p ∈ r.map modX) <;> cases Txt.startswith (modT 3 p) (modX c ++ Str.ofString ".") <;> simp
theorem str_any {l : Int} (l0 : 0 ≤ l) (l1 : l < 16) : ∀ {ss : List (Int × Int)}, (∀ c ∈ ss, StrOk c) → (ss.map fldX).any (fun y => Txt.startswith (fileN l) (y ++ Str.ofString "/")) = ss.any (hitS l)
  | [], _ => rfl
  | c :: r, h => by
    have ih := str_any l0 l1 (ss := r) fun c hc => h c (.tail _ hc)
    rw [List.any_cons, ← str_hit l0 l1 (h c (.head _)), ← ih, List.map_cons, List.any_cons]
theorem ign_eq {cc ss : List (Int × Int)} (hc : ∀ c ∈ cc, ClsOk c) (hs : ∀ c ∈ ss, StrOk c) {p : Int} (p0 : 0 ≤ p) (p1 : p < 64) {l : Option Int} (hl : ∀ x ∈ l, 0 ≤ x ∧ x < 16) :
    ignLeft (cc.map modX) (ss.map fldX) (modT 3 p) (l.map fileN) = leftOf cc ss p l := by
  unfold ignLeft leftOf
  rw [cls_any p0 p1 hc]
  cases l with
  | none => simp
  | some x =>
    obtain ⟨x0, x1⟩ := hl x rfl
    have := str_any x0 x1 hs
    simp only [Option.map_some, Option.isNone_some, this]
    simp
theorem runB_eq {lf : Int → Option Int → Bool} {lf' : Str → Option Str → Bool} (κ : Int → Str) (ν : Option Int → Option Str) (hinj : ∀ p q, 0 ≤ p → p < 64 → 0 ≤ q → q < 64 → κ p = κ q → p = q) (hstr : ∀ p, 0 ≤ p → p < 64 → κ p ≠ Str.ofString "<string>")
    (asks : List (Int × Option Int)) (h : ∀ q ∈ asks, 0 ≤ q.1 ∧ q.1 < 64 ∧ lf' (κ q.1) (ν q.2) = lf q.1 q.2) :
    (runB lf' f0 (asks.map fun q => (κ q.1, ν q.2))).2 = (runB lf (fun _ => none) asks).2 := by
  have gen : ∀ (asks : List (Int × Option Int)) (st : (Int → Option Bool) × List Bool) (st' : (Str → Option Bool) × List Bool), (∀ q ∈ asks, 0 ≤ q.1 ∧ q.1 < 64 ∧ lf' (κ q.1) (ν q.2) = lf q.1 q.2) → (∀ p, 0 ≤ p → p < 64 → st'.1 (κ p) = st.1 p) → st'.2 = st.2 →
      ((asks.map fun q => (κ q.1, ν q.2)).foldl (ansStep lf') st').2 = (asks.foldl (ansStep lf) st).2 := by
    intro asks
    induction asks with
    | nil => intro st st' _ _ e; exact e
    | cons q r ih =>
      intro st st' hq h1 e
      rw [List.map_cons, List.foldl_cons, List.foldl_cons]
      obtain ⟨q0, q1, ql⟩ := hq q (.head _)
      refine ih _ _ (fun x hx => hq x (.tail _ hx)) (fun p p0 p1 => ?_) ?_
      · simp only [ansStep, h1 _ q0 q1, ql]
        by_cases hp : p = q.1
        · rw [if_pos hp, if_pos (by rw [hp])]
        · rw [if_neg hp, if_neg fun e => hp (hinj _ _ p0 p1 q0 q1 e)]
          exact h1 p p0 p1
      · simp only [ansStep, h1 _ q0 q1, ql, e]
  exact gen asks _ _ h (fun p p0 p1 => by simp only [f0, if_neg (hstr p p0 p1)]) rfl
theorem getD_map {α β : Type} (f : α → β) {l : List α} {i : Nat} (h : i < l.length) (d : α) (e : β) : (l.map f).getD i e = f (l.getD i d) := by
  simp only [List.getD_eq_getElem?_getD, List.getElem?_map, List.getElem?_eq_getElem h, Option.map_some, Option.getD_some]
theorem asks_link {qs : List Spot} (κ : Int → Str) (ν : Int → Str) {idx : List (Int × Int)} (h : ∀ c ∈ idx, 0 ≤ c.1 ∧ c.1 < qs.length ∧ 0 ≤ c.2 ∧ c.2 < qs.length) :
    asksS (qs.map fun q => κ q.p) (qs.map fun q => if q.k then some (ν q.l) else none) idx = (asksI qs idx).map fun q => (κ q.1, q.2.map ν) := by
  unfold asksS asksI
  rw [List.map_map]
  refine List.map_congr_left fun c hc => ?_
  obtain ⟨h0, h1, h2, h3⟩ := h c hc
  rw [getD_map _ (by omega) sp0, getD_map _ (by omega) sp0]
  simp only [Function.comp]
  cases (qs.getD c.2.toNat sp0).k <;> rfl
theorem asks_in {qs : List Spot} (hok : ∀ q ∈ qs, q.Ok) {idx : List (Int × Int)} (h : ∀ c ∈ idx, 0 ≤ c.1 ∧ c.1 < qs.length ∧ 0 ≤ c.2 ∧ c.2 < qs.length) : ∀ q ∈ asksI qs idx, 0 ≤ q.1 ∧ q.1 < 64 ∧ ∀ x ∈ q.2, 0 ≤ x ∧ x < 16 := by
  intro q hq
  obtain ⟨c, hc, rfl⟩ := List.mem_map.mp hq
  obtain ⟨h0, h1, h2, h3⟩ := h c hc
  have hm : ∀ i, i < qs.length → qs.getD i sp0 ∈ qs := fun i hi => by
    rw [List.getD_eq_getElem?_getD, List.getElem?_eq_getElem hi]
    exact List.getElem_mem _
  obtain ⟨p0, p1, _, _, _, _⟩ := hok _ (hm c.1.toNat (by omega))
  obtain ⟨_, _, l0, l1, _, _⟩ := hok _ (hm c.2.toNat (by omega))
  refine ⟨p0, p1, fun x hx => ?_⟩
  simp only at hx
  split at hx
  · rw [Option.mem_def, Option.some.injEq] at hx
    rw [← hx]; exact ⟨l0, l1⟩
  · cases hx
theorem mod3_inj {p q : Int} (p0 : 0 ≤ p) (p1 : p < 64) (q0 : 0 ≤ q) (q1 : q < 64) (e : modT 3 p = modT 3 q) : p = q := by
  obtain ⟨p, rfl⟩ := to_fin (n := 64) p0 p1
  obtain ⟨q, rfl⟩ := to_fin (n := 64) q0 q1
  rw [mod_inj p q e]
theorem mod3_str {p : Int} (p0 : 0 ≤ p) (p1 : p < 64) : modT 3 p ≠ Str.ofString "<string>" := by
  obtain ⟨p, rfl⟩ := to_fin (n := 64) p0 p1
  exact mod_string p
/-- the first answers -/
theorem law_E1 {qs : List Spot} {cc ss : List (Int × Int)} (hok : ∀ q ∈ qs, q.Ok) (hc : ∀ c ∈ cc, ClsOk c) (hs : ∀ c ∈ ss, StrOk c) {idx : List (Int × Int)} (h : ∀ c ∈ idx, 0 ≤ c.1 ∧ c.1 < qs.length ∧ 0 ≤ c.2 ∧ c.2 < qs.length) :
    (runB (ignLeft (cc.map modX) (ss.map fldX)) f0 (asksS (modsOf qs) (filesOf qs) idx)).2 = (runB (leftOf cc ss) (fun _ => none) (asksI qs idx)).2 := by
  have e := asks_link (qs := qs) (modT 3) fileN h
  show (runB _ f0 (asksS (qs.map fun q => modT 3 q.p) (qs.map fun q => if q.k then some (fileN q.l) else none) idx)).2 = _
  rw [e]
  refine runB_eq (modT 3) (Option.map fileN) (fun p q p0 p1 q0 q1 => mod3_inj p0 p1 q0 q1) (fun p p0 p1 => mod3_str p0 p1) _ fun q hq => ?_
  obtain ⟨q0, q1, ql⟩ := asks_in hok h q hq
  exact ⟨q0, q1, ign_eq hc hs q0 q1 ql⟩
theorem moveP_in {mi : Bool} {tn p : Int} : 0 ≤ moveP mi tn p ∧ moveP mi tn p < 64 := ⟨Int.fmod_nonneg_of_pos _ (by decide), Int.fmod_lt_of_pos _ (by decide)⟩
theorem moveL_in {fl : Bool} {l : Int} (h : 0 ≤ l ∧ l < 16) : 0 ≤ moveL fl l ∧ moveL fl l < 16 := by
  unfold moveL
  cases fl <;> simp <;> omega
theorem moveC_ok {mi : Bool} {tn : Int} {c : Int × Int} (hc : ClsOk c) : ClsOk (moveC mi tn c) := by
  obtain ⟨k0, k1, _, _⟩ := hc
  have : (0 : Int) < 4 ^ c.2.toNat := Int.pow_pos (by decide)
  exact ⟨k0, k1, Int.fmod_nonneg_of_pos _ this, Int.fmod_lt_of_pos _ this⟩
theorem moveS_ok {fl : Bool} {c : Int × Int} (hc : StrOk c) : StrOk (moveS fl c) := by
  obtain ⟨k0, k1, n0, n1⟩ := hc
  refine ⟨k0, k1, ?_, ?_⟩ <;> unfold moveS <;> cases fl <;> simp <;> omega
theorem moveP_inj {mi : Bool} {tn p q : Int} (p0 : 0 ≤ p) (p1 : p < 64) (q0 : 0 ≤ q) (q1 : q < 64) (e : moveP mi tn p = moveP mi tn q) : p = q := by
  unfold moveP at e
  rw [Int.fmod_eq_emod_of_nonneg _ (by decide), Int.fmod_eq_emod_of_nonneg _ (by decide)] at e
  cases mi <;> simp at e <;> omega
theorem move_hit {mi : Bool} {tn p : Int} {c : Int × Int} (hc : ClsOk c) : hitC (moveP mi tn p) (moveC mi tn c) = hitC p c := by
  obtain ⟨n, k⟩ := c
  obtain ⟨k0, k1, n0, n1⟩ := hc
  simp only at k0 k1 n0 n1
  unfold hitC moveC moveP
  simp only
  have key : ∀ {a b : Int}, (a = 0 ↔ b = 0) → (a == 0) = (b == 0) := fun h => by rw [Bool.eq_iff_iff]; simpa using h
  refine key ?_
  rcases (show k = 1 ∨ k = 2 ∨ k = 3 by omega) with rfl | rfl | rfl
  · rw [show ((4 : Int) ^ (1 : Int).toNat) = 4 by decide]
    simp only [Int.fmod_eq_emod_of_nonneg _ (show (0 : Int) ≤ 4 by decide), Int.fmod_eq_emod_of_nonneg _ (show (0 : Int) ≤ 64 by decide)]
    cases mi <;> simp <;> omega
  · rw [show ((4 : Int) ^ (2 : Int).toNat) = 16 by decide]
    simp only [Int.fmod_eq_emod_of_nonneg _ (show (0 : Int) ≤ 16 by decide), Int.fmod_eq_emod_of_nonneg _ (show (0 : Int) ≤ 64 by decide)]
    cases mi <;> simp <;> omega
  · rw [show ((4 : Int) ^ (3 : Int).toNat) = 64 by decide]
    simp only [Int.fmod_eq_emod_of_nonneg _ (show (0 : Int) ≤ 64 by decide)]
    cases mi <;> simp <;> omega
theorem move_hitS {fl : Bool} {l : Int} {c : Int × Int} (hc : StrOk c) : hitS (moveL fl l) (moveS fl c) = hitS l c := by
  obtain ⟨n, k⟩ := c
  obtain ⟨k0, k1, n0, n1⟩ := hc
  simp only at k0 k1 n0 n1
  have key : ∀ {a b x y : Int}, (a = b ↔ x = y) → (a == b) = (x == y) := fun h => by rw [Bool.eq_iff_iff]; simpa using h
  unfold hitS moveS moveL
  simp only
  refine key ?_
  rcases (show k = 1 ∨ k = 2 by omega) with rfl | rfl
  · rw [show ((4 : Int) ^ (2 - 1 : Int).toNat) = 4 by decide, show ((4 : Int) ^ (1 : Int).toNat) = 4 by decide]
    simp only [Int.fdiv_eq_ediv_of_nonneg _ (show (0 : Int) ≤ 4 by decide)]
    cases fl <;> simp <;> omega
  · rw [show ((4 : Int) ^ (2 - 2 : Int).toNat) = 1 by decide, show ((4 : Int) ^ (2 : Int).toNat) = 16 by decide]
    simp only [Int.fdiv_eq_ediv_of_nonneg _ (show (0 : Int) ≤ 1 by decide)]
    cases fl <;> simp <;> omega
theorem any_move {α : Type} {f g : α → Bool} {h : α → α} : ∀ {l : List α}, (∀ x ∈ l, f (h x) = g x) → (l.map h).any f = l.any g
  | [], _ => rfl
  | x :: r, e => by rw [List.map_cons, List.any_cons, List.any_cons, e x (.head _), any_move fun y hy => e y (.tail _ hy)]
/-- the answers about what was moved -/
theorem law_E2 {qs : List Spot} {cc ss : List (Int × Int)} {mi fl : Bool} {tn : Int} (hok : ∀ q ∈ qs, q.Ok) (hc : ∀ c ∈ cc, ClsOk c) (hs : ∀ c ∈ ss, StrOk c) {idx : List (Int × Int)} (h : ∀ c ∈ idx, 0 ≤ c.1 ∧ c.1 < qs.length ∧ 0 ≤ c.2 ∧ c.2 < qs.length) :
    (runB (ignLeft ((cc.map (moveC mi tn)).map modX) ((ss.map (moveS fl)).map fldX)) f0 (asksS (farModsOf mi tn qs) (farFilesOf fl qs) idx)).2 = (runB (leftOf cc ss) (fun _ => none) (asksI qs idx)).2 := by
  have e := asks_link (qs := qs) (fun p => modT 3 (moveP mi tn p)) (fun l => fileN (moveL fl l)) h
  show (runB _ f0 (asksS (qs.map fun q => modT 3 (moveP mi tn q.p)) (qs.map fun q => if q.k then some (fileN (moveL fl q.l)) else none) idx)).2 = _
  rw [e]
  refine runB_eq (fun p => modT 3 (moveP mi tn p)) (Option.map fun l => fileN (moveL fl l)) (fun p q p0 p1 q0 q1 e => moveP_inj p0 p1 q0 q1 (mod3_inj moveP_in.1 moveP_in.2 moveP_in.1 moveP_in.2 e)) (fun p p0 p1 => mod3_str moveP_in.1 moveP_in.2) _ fun q hq => ?_
  obtain ⟨q0, q1, ql⟩ := asks_in hok h q hq
  refine ⟨q0, q1, ?_⟩
  have e2 := ign_eq (cc := cc.map (moveC mi tn)) (ss := ss.map (moveS fl)) (fun c hc' => by obtain ⟨z, hz, rfl⟩ := List.mem_map.mp hc'; exact moveC_ok (hc z hz)) (fun c hc' => by obtain ⟨z, hz, rfl⟩ := List.mem_map.mp hc'; exact moveS_ok (hs z hz)) (p := moveP mi tn q.1) moveP_in.1 moveP_in.2 (l := q.2.map (moveL fl)) (fun x hx => by
    obtain ⟨z, hz, rfl⟩ := Option.map_eq_some_iff.mp (Option.mem_def.mp hx)
    exact moveL_in (ql z hz))
  rw [Option.map_map] at e2
  refine Eq.trans e2 ?_
  unfold leftOf
  rw [any_move fun c hc' => move_hit (hc c hc')]
  cases q.2 with
  | none => rfl
  | some x =>
    simp only [Option.map_some]
    rw [any_move fun c hc' => move_hitS (hs c hc')]
    rfl
end Mine
open PySem PySem.W PyProof.Rows
set_option Elab.async false
namespace Mine
noncomputable def pairD (c : Int × Int) : Dat := .tuple [.int c.1, .int c.2]
noncomputable def clsP (n : Int) : List (Int × Int) := if n.fmod 4 = 0 then [(clsN n, clsS n)] else []
noncomputable def strP (n : Int) : List (Int × Int) := if n.fmod 4 = 1 then [(strN' n, strS n)] else []
noncomputable def clsOf (pre : List Int) : List (Int × Int) := pre.flatMap clsP
noncomputable def strOf (pre : List Int) : List (Int × Int) := pre.flatMap strP
theorem clsL_eq (pre : List Int) : clsL pre = (clsOf pre).map pairD := by
  unfold clsL clsOf
  rw [List.map_flatMap]
  congr 1
  funext n
  unfold clsD clsP
  split <;> rfl
theorem strL_eq (pre : List Int) : strL pre = (strOf pre).map pairD := by
  unfold strL strOf
  rw [List.map_flatMap]
  congr 1
  funext n
  unfold strD strP
  split <;> rfl
theorem pow4_pos {k : Nat} : (0 : Int) < 4 ^ k := Int.pow_pos (by decide)
theorem clsOf_ok (pre : List Int) : ∀ c ∈ clsOf pre, ClsOk c := by
  intro c hc
  obtain ⟨n, _, h⟩ := List.mem_flatMap.mp hc
  unfold clsP at h
  split at h
  · rw [List.mem_singleton.mp h]
    have h1 := Int.fmod_nonneg_of_pos (restOf n) (show (0 : Int) < 3 by decide)
    have h2 := Int.fmod_lt_of_pos (restOf n) (show (0 : Int) < 3 by decide)
    exact ⟨by show 1 ≤ (restOf n).fmod 3 + 1; omega, by show (restOf n).fmod 3 + 1 ≤ 3; omega, Int.fmod_nonneg_of_pos _ pow4_pos, Int.fmod_lt_of_pos _ pow4_pos⟩
  · cases h
theorem strOf_ok (pre : List Int) : ∀ c ∈ strOf pre, StrOk c := by
  intro c hc
  obtain ⟨n, _, h⟩ := List.mem_flatMap.mp hc
  unfold strP at h
  split at h
  · rw [List.mem_singleton.mp h]
    have h1 := Int.fmod_nonneg_of_pos (restOf n) (show (0 : Int) < 2 by decide)
    have h2 := Int.fmod_lt_of_pos (restOf n) (show (0 : Int) < 2 by decide)
    exact ⟨by show 1 ≤ (restOf n).fmod 2 + 1; omega, by show (restOf n).fmod 2 + 1 ≤ 2; omega, Int.fmod_nonneg_of_pos _ pow4_pos, Int.fmod_lt_of_pos _ pow4_pos⟩
  · cases h
theorem flat_le {α β : Type} {f : α → List β} (h : ∀ n, (f n).length ≤ 1) : ∀ pre : List α, (pre.flatMap f).length ≤ pre.length
  | [] => Nat.le_refl _
  | n :: r => by
    have h1 := h n
    have ih := flat_le h r
    rw [List.flatMap_cons, List.length_append, List.length_cons]
    omega
theorem all15_len (ns : List Int) : (all15 ns).length ≤ 15 := by
  unfold all15
  rw [List.length_append, List.length_take]
  simp only [List.length_cons, List.length_nil]
  omega
theorem cls_len (ns : List Int) : (clsOf (all15 ns)).length ≤ 15 := Nat.le_trans (flat_le (fun n => by unfold clsP; split <;> simp) _) (all15_len ns)
theorem str_len (ns : List Int) : (strOf (all15 ns)).length ≤ 15 := Nat.le_trans (flat_le (fun n => by unfold strP; split <;> simp) _) (all15_len ns)
theorem spots_len (ns : List Int) : (spotsOf (all15 ns)).length ≤ 15 := Nat.le_trans (flat_le (fun n => by unfold spT; (repeat' split) <;> simp) _) (all15_len ns)
theorem in15 (ns : List Int) {n : Int} (h : n ∈ [12, 368, 37, 5914, 182, 1050, 13442, 11386, (51550 : Int)]) : n ∈ all15 ns := List.mem_append_right _ h
theorem cls_1 (ns : List Int) : ((1 : Int), (1 : Int)) ∈ clsOf (all15 ns) := List.mem_flatMap.mpr ⟨12, in15 ns (by decide), by decide⟩
theorem cls_3 (ns : List Int) : ((30 : Int), (3 : Int)) ∈ clsOf (all15 ns) := List.mem_flatMap.mpr ⟨368, in15 ns (by decide), by decide⟩
theorem str_1 (ns : List Int) : ∃ c, c ∈ strOf (all15 ns) := ⟨(strN' 37, strS 37), List.mem_flatMap.mpr ⟨37, in15 ns (by decide), by decide⟩⟩
theorem two_1 {a b : Int × Int} (ha : ClsOk a) (hb : ClsOk b) (a1 : a.2 = 1) (b3 : b.2 = 3) : modX a ≠ modX b := by
  obtain ⟨n, k⟩ := a
  obtain ⟨n', k'⟩ := b
  simp only at a1 b3
  subst a1; subst b3
  obtain ⟨_, _, n0, n1⟩ := ha
  obtain ⟨_, _, m0, m1⟩ := hb
  obtain ⟨n, rfl⟩ := to_fin (n := 4) n0 n1
  obtain ⟨n', rfl⟩ := to_fin (n := 64) m0 m1
  exact mod_13 n n'
theorem two_x (ns : List Int) : ∃ a b, a ∈ (clsOf (all15 ns)).map modX ∧ b ∈ (clsOf (all15 ns)).map modX ∧ a ≠ b :=
  ⟨_, _, List.mem_map_of_mem (cls_1 ns), List.mem_map_of_mem (cls_3 ns), two_1 (clsOf_ok _ _ (cls_1 ns)) (clsOf_ok _ _ (cls_3 ns)) rfl rfl⟩
theorem two_y (ns : List Int) (mi : Bool) (tn : Int) : ∃ a b, a ∈ ((clsOf (all15 ns)).map (moveC mi tn)).map modX ∧ b ∈ ((clsOf (all15 ns)).map (moveC mi tn)).map modX ∧ a ≠ b :=
  ⟨_, _, List.mem_map_of_mem (List.mem_map_of_mem (cls_1 ns)), List.mem_map_of_mem (List.mem_map_of_mem (cls_3 ns)), two_1 (moveC_ok (clsOf_ok _ _ (cls_1 ns))) (moveC_ok (clsOf_ok _ _ (cls_3 ns))) rfl rfl⟩
theorem pair_val {tT : List (Addr × Obj)} {v : Value} {q : Int × Int} (h : DatIn tT v (pairD q)) : ∃ a t1 t2 n, v = .ref a ∧ (a, tupObj [.int q.1 t1, .int q.2 t2] n) ∈ tT := by
  unfold pairD at h
  cases h with
  | tuple hm hd =>
    cases hd with
    | cons h1 hd =>
      cases hd with
      | cons h2 hd =>
        cases hd
        cases h1; cases h2
        exact ⟨_, _, _, _, rfl, hm⟩
theorem pairs_of {tT : List (Addr × Obj)} : ∀ {us : List Value} {xs : List (Int × Int)}, DatAll tT us (xs.map pairD) → PairsL tT us xs
  | us, [], h => by
    cases h
    exact .nil
  | us, x :: r, h => by
    rw [List.map_cons] at h
    cases h with
    | cons h1 hd =>
      obtain ⟨a, t1, t2, n, rfl, hm⟩ := pair_val h1
      exact .cons hm (pairs_of hd)
end Mine
open PySem PySem.W PyProof.Rows
set_option Elab.async false
namespace Mine
theorem allLt_mem {x : Nat} : ∀ {l : List (Addr × Obj)}, AllLt x l → ∀ p ∈ l, @LT.lt Nat _ p.1 x
  | [], _, _, hp => nomatch hp
  | q :: r, h, p, hp => by
    rcases List.mem_cons.mp hp with rfl | hp
    · exact h.1
    · exact allLt_mem h.2 p hp
section
variable {w : World} {mean : ExcName → Option Value} {mg mb : Str → Option Value} {h₀ : Heap} {L fa : Addr} {cd : Value} {m : Str → Option Value} {news : List (Addr × Obj)} {s : Shared} {Q : Flow → Shared → Prop} {E : Value → Shared → Prop} {st : Stmt} {sc : Scope}
set_option maxRecDepth 100000 in
set_option maxHeartbeats 8000000 in
theorem law_join2 (hsc : lawScope = some sc) (B : Below callerA h₀ [] h₀) (X : (Mine.hd.heap_1 w.params).In h₀) (T : Top Mine.hd.view_1 (looseW Mine.hd.view_1 []) mean mg mb h₀) {target iter : Expr} {body orelse : List Stmt} {pos : Pos} (hf : lawSt 9 = some (.For target iter body orelse pos)) (ht : isTupT target = true) {rest : List Stmt} (hr : lawDef.map (fun d => d.1.drop 10) = some rest) (htk : 1 ≤ s.toks)
    {ls lc lt lm lf lx ly : Addr} {vs vC vS : List Value} {e1 e2 e3 e4 k1 k2 k3 : Nat} {oS oT oM oF : Obj} {tT rs : List (Addr × Obj)} {ns : List Int} {tn : Int} {tt : Tok} {mi fl : Bool} {m₀ : Str → Option Value}
    (F : Fr h₀ L s.heap m₀) (N : News h₀ L s.heap ((ly, W.listOf #[] e4) :: (lx, W.listOf #[] e3) :: (lf, W.listOf #[] e2) :: (lm, W.listOf #[] e1) :: rs))
    (hD : DatAll tT vs (spoL (all15 ns))) (hDC : DatAll tT vC (clsL (all15 ns))) (hDS : DatAll tT vS (strL (all15 ns)))
    (m1 : m₀ (Str.ofString "classes") = some (.ref lc)) (m2 : m₀ (Str.ofString "stretches") = some (.ref lt)) (m3 : m₀ (Str.ofString "modules") = some (.ref lm)) (m4 : m₀ (Str.ofString "files") = some (.ref lf)) (m5 : m₀ (Str.ofString "far_modules") = some (.ref lx)) (m6 : m₀ (Str.ofString "far_files") = some (.ref ly))
    (n1 : (ls, W.listOf vs.toArray k1) ∈ rs) (n2 : (lc, W.listOf vC.toArray k2) ∈ rs) (n3 : (lt, W.listOf vS.toArray k3) ∈ rs)
    (dS : oS.data = .cell (some (.ref ls))) (hS : (L + 1, oS) ∈ rs) (dT : oT.data = .cell (some (.int tn tt))) (hT : (L + 1 + 1, oT) ∈ rs) (dM : oM.data = .cell (some (.bool mi))) (hM : (L + 1 + 1 + 1, oM) ∈ rs) (dF : oF.data = .cell (some (.bool fl))) (hF : (L + 1 + 1 + 1 + 1, oF) ∈ rs)
    (hTn : ∀ p ∈ tT, p ∈ rs)
    (a1 : AllLt ly ((lx, W.listOf #[] e3) :: (lf, W.listOf #[] e2) :: (lm, W.listOf #[] e1) :: rs)) (a2 : AllLt lx ((lf, W.listOf #[] e2) :: (lm, W.listOf #[] e1) :: rs)) (a3 : AllLt lf ((lm, W.listOf #[] e1) :: rs)) (a4 : AllLt lm rs) (tn0 : 0 ≤ tn) (tn1 : tn < 64)
    {Q Qr : Flow → Shared → Prop} {Ex : Value → Shared → Prop} (hQ : ∀ s', (∀ tk, wpAny (model PySem.Challenge.rw_pg0115_01.row.prog w) (callerA.deeper (envOfC (Str.ofString "law") sc L fa cd)) (execs rest (envOfC (Str.ofString "law") sc L fa cd)) Qr Ex { s' with toks := tk }) → Q .next s')
    (ret : ∀ h' tk' d' m', Fr h₀ L h' m' → Qr (.ret (.bool true)) { s with heap := h', toks := tk', drawn := d' }) :
    wpAny (model PySem.Challenge.rw_pg0115_01.row.prog w) (callerA.deeper (envOfC (Str.ofString "law") sc L fa cd)) (pyIter (.ref ls)) (fun it s₂ => codeAny (model PySem.Challenge.rw_pg0115_01.row.prog w) (callerA.deeper (envOfC (Str.ofString "law") sc L fa cd)) (.forLoop target it body [] (envOfC (Str.ofString "law") sc L fa cd)) (fun r s' => match r with | .ok f => Q f s' | .error e => cameBackBy (model PySem.Challenge.rw_pg0115_01.row.prog w) (callerA.deeper (envOfC (Str.ofString "law") sc L fa cd)) (envOfC (Str.ofString "law") sc L fa cd) E e s') s₂) E s := by
  rw [spoL_eq] at hD
  rw [clsL_eq] at hDC
  rw [strL_eq] at hDS
  have hPC := (pairs_of hDC).mono hTn
  have hPS := (pairs_of hDS).mono hTn
  have cok := clsOf_ok (all15 ns)
  have sok := strOf_ok (all15 ns)
  have clen := cls_len ns
  have slen := str_len ns
  have x2 := two_x ns
  have y2 := two_y ns mi tn
  have c1 := cls_1 ns
  have s1 := str_1 ns
  have E1 := law_E1 (spots_ok (all15 ns)) cok sok (diag_ok (n := (spotsOf (all15 ns)).length))
  have E2 := law_E2 (mi := mi) (fl := fl) (tn := tn) (spots_ok (all15 ns)) cok sok (diag_ok (n := (spotsOf (all15 ns)).length))
  cases hc : clsOf (all15 ns) with
  | nil => rw [hc] at c1; cases c1
  | cons c cr =>
    cases hs : strOf (all15 ns) with
    | nil => rw [hs] at s1; obtain ⟨_, h⟩ := s1; cases h
    | cons d sr =>
      rw [hc] at hPC cok clen x2 y2 E1 E2
      rw [hs] at hPS sok slen E1 E2
      simp only [List.length_cons] at clen slen
      exact law_join (oS := oS) (oT := oT) (oM := oM) (oF := oF) hsc B X T hf ht hr htk F N m1 m2 m3 m4 m5 m6 hS dS hT dT hM dM hF dF n1 n2 n3 hD hTn hPC hPS
        (fun q hq => Nat.ne_of_lt (allLt_mem a1 q (.tail _ (.tail _ (.tail _ hq))))) (fun q hq => Nat.ne_of_lt (allLt_mem a2 q (.tail _ (.tail _ hq)))) (fun q hq => Nat.ne_of_lt (allLt_mem a3 q (.tail _ hq))) (fun q hq => Nat.ne_of_lt (allLt_mem a4 q hq))
        (Nat.ne_of_gt a1.1) (Nat.ne_of_gt a1.2.1) (Nat.ne_of_gt a1.2.2.1) (Nat.ne_of_gt a2.1) (Nat.ne_of_gt a2.2.1) (Nat.ne_of_gt a3.1) tn0 tn1
        (fun x hx => ⟨(cok x hx).1, (cok x hx).2.1⟩) (fun x hx => ⟨(sok x hx).1, (sok x hx).2.1⟩) (spots_ok (all15 ns)) (by omega) (by omega) (spots_len ns) x2 y2 E1 E2 hQ ret
end
end Mine
open PySem PySem.W PyProof.Rows
set_option Elab.async false
namespace Mine
theorem w_clear_L4 : True := by
  w_top off
  k_with_none
  k_with "callWith" => (k_here; (with_reducible show wpAny _ _ (callWith _ (Value.builtin _) (_ :: _) (backTo _ (starEach (_ :: _) _)) []) _ _ _); (with_reducible refine' PyProof.Rows.callWith_method1 ?_ ?he ?hp); (case he => k_dflt rfl); (case hp => k_dflt rfl))
  k_with "callWith" => (k_here; (with_reducible show wpAny _ _ (callWith _ (Value.builtin _) [] (backTo _ (starEach (_ :: _) _)) []) _ _ _); (with_reducible refine' PyProof.Rows.callWith_builtin1 ?_ ?he ?hp); (case he => k_dflt rfl); (case hp => k_dflt rfl))
  trivial
theorem things_use4 {w : World} {l : Addr} {vs : List Value} {ns : List Int} (hI : IntsAre vs ns) (hlen : ns.length ≤ 63)
    {mean : ExcName → Option Value} {mg mb : Str → Option Value} {dp un : Nat} {gd : Option (List Code)} {cn : Str} {cs : Scope} {a : Addr} {ccd : Value} {cl : List (Str × Addr)} {outer : List Env} {A₀ : Around} {base h₀ : Heap} {L : Addr} {m : Str → Option Value} {b1 b2 b3 b4 : Addr} {p1 p2 p3 p4 : Obj} {s : Shared}
    {Q E : Value → Shared → Prop} (B : Below A₀ base outer h₀) (F : Fr h₀ L s.heap m) (X : (Mine.hd.heap_1 w.params).In h₀) (N : News h₀ L s.heap [(b4, p4), (b3, p3), (b2, p2), (b1, p1)]) (T : Top Mine.hd.view_1 (looseW Mine.hd.view_1 []) mean mg mb h₀) (hk : cs.kind = .function)
    (hp : s.heap.IsList l vs.toArray) (hd : dp + 1 < recursionLimit) (hu : un + 8 * 1 < cLine)
    (ret : ∀ D l1 l2 l3 us1 us2 us3 e1 e2 e3 tT h' tk', Fr h₀ L h' m → News h₀ L h' ((D, tupObj [.ref l1, .ref l2, .ref l3] 0) :: (l3, W.listOf us3.toArray e3) :: (l2, W.listOf us2.toArray e2) :: (l1, W.listOf us1.toArray e1) :: ((b4, p4) :: (b3, p3) :: (b2, p2) :: (b1, p1) :: tT)) →
      D ≠ b4 → D ≠ b3 → D ≠ b2 → D ≠ b1 → l3 ≠ b4 → l3 ≠ b3 → l3 ≠ b2 → l3 ≠ b1 → l2 ≠ b4 → l2 ≠ b3 → l2 ≠ b2 → l2 ≠ b1 → l1 ≠ b4 → l1 ≠ b3 → l1 ≠ b2 → l1 ≠ b1 → OwnOff tT [b4, b3, b2, b1] →
      DatAll tT us1 (clsL (all15 ns)) → DatAll tT us2 (strL (all15 ns)) → DatAll tT us3 (spoL (all15 ns)) → Q (.ref D) { s with heap := h', toks := tk' }) :
    wpAny (model PySem.Challenge.rw_pg0115_01.row.prog w) (ktrTop dp un gd cn cs L a ccd cl outer) (call (.ref 139) [.ref l]) Q E s := by
  refine things_use hI hlen B F X N T hk hp hd hu fun D l1 l2 l3 us1 us2 us3 e1 e2 e3 tT h' tk' F' N' hl ho d1 d2 d3 => ?_
  simp only [AllNe, and_true] at hl
  obtain ⟨⟨na1, na2, na3, na4⟩, ⟨nb1, nb2, nb3, nb4⟩, ⟨nc1, nc2, nc3, nc4⟩, nd1, nd2, nd3, nd4⟩ := hl
  exact ret D l1 l2 l3 us1 us2 us3 e1 e2 e3 tT h' tk' F' N' na1.symm na2.symm na3.symm na4.symm nb1.symm nb2.symm nb3.symm nb4.symm nc1.symm nc2.symm nc3.symm nc4.symm nd1.symm nd2.symm nd3.symm nd4.symm ho d1 d2 d3
local macro_rules | `(tactic| k_ne) => `(tactic| (first | assumption | exact Ne.symm (by assumption)))
theorem w_words_L4_1 : True := by
  k_with "execs cons" => (k_here; k_dflt (refine' execs_tok ?hn ?_; (case hn => ((try dsimp only); omega)); k_whole))
  k_with "TokNext" => (intro tk9 hk9; (try dsimp only))
  k_with "call ref" => (k_here; k_dflt (refine' things_use4 (by assumption) (by omega) ?k1 ?k2 ?k3 ?k4 ?k5 ?kK ?kp ?kd ?ku ?_; (case k1 => k_asm); (case k2 => k_asm); (case k3 => k_asm); (case k4 => k_asm); (case k5 => k_asm); (case kK => exact rfl); (case kp => is_list); (case kd => ktr_room); (case ku => ktr_units); k_whole; intro D9 l19 l29 l39 us19 us29 us39 e19 e29 e39 tT9 h9 tk9 F9 N9 na1 na2 na3 na4 nb1 nb2 nb3 nb4 nc1 nc2 nc3 nc4 nd1 nd2 nd3 nd4 ho9 d19 d29 d39;  have kMark9 := kdMark; (try dsimp only)))
  k_with "exec For Tuple Name cons nil" => (k_here; refine' wpAny_For ?_ (by intro _; rfl))
  trivial
set_option maxRecDepth 100000 in
/-- the row's looks, each by the kernel alone (one by one: small steps) -/
theorem well1 : OpenRow.wellSaid PySem.Challenge.rw_pg0115_01.row = true := by
  unfold OpenRow.wellSaid OpenRow.partSaid looksOpen
  repeat' (with_reducible refine look_both ?_ ?_)
  all_goals decide +kernel
set_option maxRecDepth 100000 in
theorem well : OpenLaw.wellSaid PySem.Challenge.rw_pg0115_01 = true := by
  unfold OpenLaw.wellSaid
  repeat' (with_reducible refine look_both ?_ ?_)
  · exact well1
  all_goals decide +kernel
set_option maxRecDepth 100000 in
set_option maxHeartbeats 8000000 in
theorem X1 : PySem.Challenge.rw_pg0115_01.Holds := holds_law well fun _ => Mine.hd (by
  -- law's frame is entered by hand: the library's own entrance also states a fact of the globals that costs 1.6 MB of twins
  k_fill
  intro w s₀ s₁ mg mb G Y fa o pm cd doc dV kV ho hd hcd hD hmg hg args vals as hpre hlay hrd hwl hlo
  have X := kIn_of Y
  refine Ground.open G ?_
  intro T B D TE TW
  wrow_args hpre hlay hrd hwl hlo
  refine enter_call ?_
  w_top on
  refine codeAny_mono ?_ (fun _ _ g => GoodW.toG g)
  have K0 := below_caller (Top.heap T)
  w_call any ho hd hcd hD T F
  clear hd
  k_drop
  (all_goals try k_fold)
  k_steps
  (rename DatAll _ _ (spoL _) => dS)
  (rename DatAll _ _ (clsL _) => dC)
  (rename DatAll _ _ (strL _) => dT)
  k_dflt (refine' law_join2 rfl ?hB ?hX ?hT rfl rfl rfl ?htk ?hF ?hN dS dC dT ?m1 ?m2 ?m3 ?m4 ?m5 ?m6 ?n1 ?n2 ?n3 ?d1 ?c1 ?d2 ?c2 ?d3 ?c3 ?d4 ?c4 ?tT ?a1 ?a2 ?a3 ?a4 ?t0 ?t1 ?hQ ?ret)
  case hB => k_asm
  case hX => k_asm
  case hT => k_asm
  case htk => (dsimp only; omega)
  case hF => k_asm
  case hN => k_asm
  case m1 => rfl
  case m2 => rfl
  case m3 => rfl
  case m4 => rfl
  case m5 => rfl
  case m6 => rfl
  case n1 => k_memK
  case n2 => k_memK
  case n3 => k_memK
  case c1 => k_memK
  case d1 => assumption
  case c2 => k_memK
  case d2 => assumption
  case c3 => k_memK
  case d3 => assumption
  case c4 => k_memK
  case d4 => assumption
  case tT => (intro p hp; repeat (first | exact hp | refine List.Mem.tail _ ?_))
  case a1 => assumption
  case a2 => assumption
  case a3 => assumption
  case a4 => assumption
  case t0 => exact Int.fmod_nonneg_of_pos _ (by decide)
  case t1 => exact Int.fmod_lt_of_pos _ (by decide)
  case hQ => exact fun s' h tk _ => h tk
  case ret =>
    intro h' tk' d' m' F'
    k_steps)
end Mine
theorem PySem.Challenge.cw_pg0115_01_holds : PySem.Challenge.rw_pg0115_01.Holds :=
  Mine.X1
