import PyProof.Rows.All
import Wide.All
import OpenK.AllK
import Wide.FinOn
import PyProof.IsiH_list
import PyProof.FactsAll.set
import PyProof.FactsAll.list_2
import Lean
import PySem.Challenge.RW_dr0139_02
set_option bootstrap.genMatcherCode false
set_option genSizeOf false
set_option Elab.async false
set_option maxRecDepth 100000
set_option linter.unusedVariables false
section
open PySem PySem.W PyProof.Rows
set_option maxHeartbeats 8000000
open PySem.Str (ofString)
namespace Mine
open_top hd for PySem.Challenge.rw_dr0139_02.row
theorem said : OpenLaw.wellSaid PySem.Challenge.rw_dr0139_02 = true := by
 delta OpenLaw.wellSaid
 iterate 25 (try (any_goals with_reducible refine look_both ?_ ?_))
 any_goals (delta OpenRow.wellSaid OpenRow.partSaid; (iterate 25 (try (any_goals with_reducible refine look_both ?_ ?_))))
 any_goals (delta looksOpen; (iterate 25 (try (any_goals with_reducible refine look_both ?_ ?_))))
 all_goals decide +kernel
end Mine
end
section
open PySem PySem.W PySem.Calls PyProof.Rows
open PySem.Str (ofString)
namespace Mine
noncomputable abbrev Cell := Addr × Obj
noncomputable def NsO (o : Obj) (m : Str → Option Value) : Prop := ∃ es ep, o.data = .dict es ep ∧ StrKeys es ∧ ∀ n, nsFind es n = m n
theorem NsO.ns {h : Heap} {a : Addr} {o : Obj} {m : Str → Option Value} (x : NsO o m) (e : h.get? a = some o) : h.Ns a m :=
 let ⟨es, ep, a1, a2, a3⟩ := x; ⟨o, es, ep, e, a1, a2, a3⟩
theorem ns_nsO {h : Heap} {a : Addr} {m : Str → Option Value} (x : h.Ns a m) : ∃ o, h.get? a = some o ∧ NsO o m :=
 let ⟨o, es, ep, e, a1, a2, a3⟩ := x; ⟨o, e, es, ep, a1, a2, a3⟩
noncomputable def updM (m : Str → Option Value) (x : Str) (v : Value) : Str → Option Value := fun y => if y = x then some v else m y
theorem updM_ne {m : Str → Option Value} {x y : Str} {v : Value} (h : ¬ y = x) : updM m x v y = m y := if_neg h
noncomputable def bindM (l : List (Str × Value)) : Str → Option Value := fun y => l.reverse.lookup y
structure St (B : Heap) (os : OsState) (G : Array GenState) (L : Addr) (m : Str → Option Value) (news : List Cell) (s : Shared) : Prop where
 F : Fr B L s.heap m
 N : News B L s.heap news
 nd : (news.map (·.1)).Nodup
 gens : s.gens = G
 bare : AllBare G
 os : s.os = os
inductive Up (d : Addr) (o o' : Obj) : List Cell → List Cell → Prop
 | head {r} : Up d o o' ((d, o) :: r) ((d, o') :: r)
 | tail {p r r'} : Up d o o' r r' → Up d o o' (p :: r) (p :: r')
theorem Up.keys {d o o' l l'} (u : Up d o o' l l') : l'.map (·.1) = l.map (·.1) := by
 induction u with
 | head => rfl
 | tail _ ih => simp only [List.map_cons, ih]
theorem Up.mem {d o o' l l'} (u : Up d o o' l l') : (d, o) ∈ l := by
 induction u with
 | head => exact .head _
 | tail _ ih => exact .tail _ ih
theorem Up.app {d o o' l l'} (u : Up d o o' l l') (r : List Cell) : Up d o o' (l ++ r) (l' ++ r) := by
 induction u with
 | head => exact .head
 | tail _ ih => exact .tail ih
theorem Up.pre {d o o' l l'} (u : Up d o o' l l') : ∀ r : List Cell, Up d o o' (r ++ l) (r ++ l')
 | [] => u
 | _ :: r => .tail (u.pre r)
theorem Up.upd {d o o' l l'} (u : Up d o o' l l') (nd : (l.map (·.1)).Nodup) : Upd d o o' l l' := by
 induction u with
 | @head r =>
  rw [List.map_cons, List.nodup_cons] at nd
  exact .head fun p hp e => nd.1 (by show d ∈ _; rw [← e]; exact List.mem_map_of_mem (f := Prod.fst) hp)
 | @tail p r r' u ih =>
  rw [List.map_cons, List.nodup_cons] at nd
  exact .tail (fun e => nd.1 (by rw [e]; exact List.mem_map_of_mem (f := Prod.fst) u.mem)) (ih nd.2)
section
variable {B : Heap} {os : OsState} {G : Array GenState} {L : Addr} {m m' : Str → Option Value} {news news' : List Cell} {s s' : Shared}
theorem St.get (S : St B os G L m news s) {a : Addr} {o : Obj} (h : (a, o) ∈ news) : s.heap.get? a = some o := (S.N _ h).1
theorem St.lt (S : St B os G L m news s) {p : Cell} (h : p ∈ news) : p.1 < s.heap.objs.size := Heap.lt_size (S.N _ h).1
theorem St.sub (S : St B os G L m news s) (h : ∀ p ∈ news', p ∈ news) (nd : (news'.map (·.1)).Nodup) : St B os G L m news' s :=
 ⟨S.F, fun p hp => S.N p (h p hp), nd, S.gens, S.bare, S.os⟩
theorem St.perm (S : St B os G L m news s) (h : news.Perm news') : St B os G L m news' s :=
 S.sub (fun p hp => h.symm.subset hp) ((h.map (·.1)).nodup S.nd)
theorem St.drop (S : St B os G L m news s) (h : news'.Sublist news) : St B os G L m news' s :=
 S.sub (fun p hp => h.subset hp) ((h.map (·.1)).nodup S.nd)
theorem St.swap {a b r : List Cell} (S : St B os G L m (a ++ (b ++ r)) s) : St B os G L m (b ++ (a ++ r)) s :=
 S.perm (by rw [← List.append_assoc, ← List.append_assoc]; exact List.perm_append_comm.append_right r)
theorem St.to (S : St B os G L m news s) (F : Fr B L s'.heap m') (N : News B L s'.heap news') (k : news'.map (·.1) = news.map (·.1)) (hg : s'.gens = s.gens := by rfl) (ho : s'.os = s.os := by rfl) : St B os G L m' news' s' :=
 ⟨F, N, by rw [k]; exact S.nd, by rw [hg]; exact S.gens, S.bare, by rw [ho]; exact S.os⟩
theorem St.cons (S : St B os G L m news s) {q : Addr} {o : Obj} (F : Fr B L s'.heap m) (N : News B L s'.heap ((q, o) :: news)) (h : ∀ p ∈ news, p.1 < q) (hg : s'.gens = s.gens := by rfl) (ho : s'.os = s.os := by rfl) : St B os G L m ((q, o) :: news) s' :=
 ⟨F, N, by
  rw [List.map_cons, List.nodup_cons]
  refine ⟨fun hm => ?_, S.nd⟩
  obtain ⟨p, hp, e⟩ := List.mem_map.mp hm
  exact absurd (h p hp) (by rw [e]; exact Nat.lt_irrefl _), by rw [hg]; exact S.gens, S.bare, by rw [ho]; exact S.os⟩
theorem St.push (S : St B os G L m news s) (o : Obj) (hf : o.isFreed = false := by rfl) {t : Nat} : St B os G L m ((s.heap.objs.size, o) :: news) { s with heap := s.heap.push o, toks := t } :=
 S.cons (s' := { s with heap := s.heap.push o, toks := t }) (S.F.push o) (S.N.push S.F o hf) fun _ hp => S.lt hp
end
end Mine
end
local macro_rules | `(tactic| walk_at "mem") => `(tactic| (repeat (first | assumption | exact List.Mem.head _ | refine List.Mem.tail _ ?_)))
local macro_rules | `(tactic| walk_at "up") => `(tactic| (repeat (first | exact Mine.Up.head | refine Mine.Up.tail ?_)))
section
open PySem PySem.W PySem.Calls PyProof.Rows
open PySem.Str (ofString)
namespace Mine
structure FrC (B : Heap) (L : Addr) (oL : Obj) (m : Str → Option Value) : Prop where
 ns : NsO oL m
 above : B.objs.size ≤ L
theorem base_none {B : Heap} {L : Addr} (h : B.objs.size ≤ L) : B.get? L = none := by
 cases q : B.get? L with
 | none => rfl
 | some o => exact absurd (Heap.lt_size q) (Nat.not_lt.mpr h)
theorem StrKeys.noRef {es : Array DictEntry} (hk : StrKeys es) : es.toList.any (·.refKey) = false := by
 rw [List.any_eq_false]
 intro e he
 obtain ⟨n, t, h⟩ := hk e (by simpa using he)
 simp [DictEntry.refKey, h]
theorem NsO.look {o : Obj} {m : Str → Option Value} (x : NsO o m) (name : Str) : lookIn name o = some (m name) := by
 obtain ⟨es, ep, a1, a2, a3⟩ := x
 unfold lookIn
 rw [a1, ← a3 name]
 unfold nsFind findBy
 rw [← Array.find?_toList]
 dsimp only
 cases q : es.toList.find? (·.key.isStr name) with
 | some e => rfl
 | none =>
  dsimp only
  rw [StrKeys.noRef a2]
  rfl
section
variable {prog : Program} {w : World} {A : Around} {E : Value → Shared → Prop} {s s' : Shared} {B : Heap} {os : OsState} {G : Array GenState} {L : Addr} {m m' : Str → Option Value} {news : List Cell} {K : Frag}
theorem St.X (S : St B os G L m news s) (X : K.In B) : K.In s.heap := X.keeps S.F.keep
theorem St.back {L' : Addr} {oL : Obj} (S : St B os G L' m' ((L, oL) :: news) s) (f : FrC B L oL m) : St B os G L m news s := by
 have nd := S.nd
 rw [List.map_cons, List.nodup_cons] at nd
 refine ⟨⟨f.ns.ns (S.N _ (.head _)).1, S.F.keep, f.above⟩, fun p hp => ⟨(S.N p (.tail _ hp)).1, fun e => nd.1 ?_, (S.N p (.tail _ hp)).2.2⟩, nd.2, S.gens, S.bare, S.os⟩
 show L ∈ _
 rw [← e]; exact List.mem_map_of_mem (f := Prod.fst) hp
theorem St.enter (S : St B os G L m news s) {h₁ : Heap} {t : Nat} {mb : Str → Option Value} (hn : h₁.Ns s.heap.objs.size mb) (hk : ∀ b o, s.heap.get? b = some o → h₁.get? b = some o) :
 ∃ oL, FrC B L oL m ∧ St B os G s.heap.objs.size mb ((L, oL) :: news) { s with heap := h₁, toks := t } := by
 obtain ⟨oL, e, hns⟩ := ns_nsO S.F.ns
 have lt : L < s.heap.objs.size := Heap.lt_size e
 refine ⟨oL, ⟨hns, S.F.above⟩, ⟨hn, fun b o q => hk b o (S.F.keep b o q), Nat.le_trans S.F.above (Nat.le_of_lt lt)⟩, fun p hp => ?_, ?_, S.gens, S.bare, S.os⟩
 · rcases List.mem_cons.mp hp with rfl | hp
   · exact ⟨hk _ _ e, Nat.ne_of_lt lt, base_none S.F.above⟩
   · exact ⟨hk _ _ (S.N p hp).1, Nat.ne_of_lt (S.lt hp), (S.N p hp).2.2⟩
 · rw [List.map_cons, List.nodup_cons]
   refine ⟨fun hm => ?_, S.nd⟩
   obtain ⟨p, hp, e⟩ := List.mem_map.mp hm
   exact (S.N p hp).2.1 e
theorem call_fn {R : Result → Shared → Prop} {name qual : Str} {params : Arguments} {body : List Stmt} {scope : Scope} {dV kV doc pm cdv ct oc : Value} {an od : Option Addr} {osl : Array (Option Value)} {f : Addr} {args : Args} {binds : List (Str × Value)}
 (S : St B os G L m news s) (X : K.In B) (hlim : B.NoLimit)
 (ho : K.lookup f = some ⟨oc, od, .func (fnOf name qual params body scope dV kV doc pm an cdv ct), osl⟩) (hcd : codeIn K cdv qual = true) (hroom : A.depth < recursionLimit)
 (hbind : BindsTo s (fnOf name qual params body scope dV kV doc pm an cdv ct) args binds) (hloc : ∀ y ∈ binds, scope.names.lookup y.1 = some .local)
 (h : ∀ L' oL s', FrC B L oL m → St B os G L' (bindM binds) ((L, oL) :: news) s' →
  wpAny (model prog w) (A.deeper (envOf qual scope L' f cdv)) (execs body (envOf qual scope L' f cdv))
   (fun fl s' => R (.ok (.ret (match fl with | .ret v => v | _ => .none))) s')
   (fun e s' => wpAny (model prog w) (A.deeper (envOf qual scope L' f cdv)) (leaving (envOf qual scope L' f cdv) e) (fun _ s'' => R (.error e) s'') (fun e' s'' => R (.error e') s'') s') s')
 (hco : scope.isCoroutine = false := by rfl) (hgen : scope.isGenerator = false := by rfl) (hk : scope.kind = .function := by rfl)
 (hcell : ∀ x ∈ scope.names, x.2 ≠ .cell := by decide) : codeAny (model prog w) A (.call (.ref f) args) R s := by
 refine codeAny_call_def (fd := fnOf name qual params body scope dV kV doc pm an cdv ct) (body := body) (binds := binds) hroom (S.X X _ _ ho) rfl (hlim.keeps S.F.keep) (codeRec_of (S.X X) hcd) rfl hbind hcell hloc (fun h₁ hns hk₁ => ?_) hco hgen hk
 obtain ⟨oL, fc, S'⟩ := S.enter (t := s.toks + binds.length) hns hk₁
 exact h _ oL _ fc S'
theorem stS {name : Str} {scope : Scope} {a : Addr} {cd : Value} {M : Model} {x : Str} {v : Value} {Q : Unit → Shared → Prop} (S : St B os G L m news s)
 (h : ∀ s', St B os G L (updM m x v) news s' → Q () s')
 (hk : scope.kind = .function := by rfl) (hl : (envOf name scope L a cd).kindOf x = some .local := by rfl) :
 wpAny M A (storeName (envOf name scope L a cd) x v) Q E s :=
 stN S.F S.N (fun h' F' N' => h _ (S.to (s' := { s with heap := h', toks := s.toks + 1 }) F' N' rfl)) hk hl
theorem attrS {x C dx : Addr} {od : Obj} {sl : Array (Option Value)} {am : Str → Option Value} {name : Str} {v : Value} {attr : Option Value} {expr : Bool} {Q : Value → Shared → Prop} (S : St B os G L m news s) (X : K.In B)
 (hx : (x, (⟨.ref C, some dx, .plain, sl⟩ : Obj)) ∈ news) (hd : (dx, od) ∈ news) (ho : NsO od am) (hg : plainGet K C name = true) (hh : hasDictIn K C = true) (ha : findIn K (.ref C) name = some attr) (hn : noGet K attr = true)
 (hv : am name = some v) (hv' : handedIn v = true) (h : ∀ s', St B os G L m news s' → Q v s') : wpAny (model prog w) A (getAttr (.ref x) name expr) Q E s :=
 get_value (S.X X) (InstAt.of_news S.N hx hd) (plainGet_of hg).1 (findObj_own hh ha hn (by rw [ho.look, hv])) hv' (h _ ⟨S.F, S.N, S.nd, S.gens, S.bare, S.os⟩)
theorem methS {x C dx f : Addr} {od : Obj} {sl : Array (Option Value)} {am : Str → Option Value} {name : Str} {pl : Sem Bool} {Q : Value × List Value → Shared → Prop} (S : St B os G L m news s) (X : K.In B)
 (hx : (x, (⟨.ref C, some dx, .plain, sl⟩ : Obj)) ∈ news) (hd : (dx, od) ∈ news) (ho : NsO od am) (hg : plainGet K C name = true) (hf : findIn K (.ref C) name = some (some (.ref f))) (ht : isFn K (.ref f) = true)
 (hv : am name = none) (h : Q (.ref f, [.ref x]) s) : wpAny (model prog w) A (getMethod (.ref x) name pl) Q E s :=
 method_fn (S.X X) (InstAt.of_news S.N hx hd) (plainGet_of hg).1 (plainGet_of hg).2 hf (beq_iff_eq.mp ht) (by show (lookIn name od).map _ = _; rw [ho.look, hv]; rfl) h
end
noncomputable abbrev SegY (P : End → Shared → Prop) (prog : Program) (w : World) (A : Around) (c : Code) (t : Sem Fin) (fs : List Frame) (s : Shared) : Prop := PySem.W.X.SegX (model prog w) A c t fs s P
section
variable {prog : Program} {w : World} {A : Around} {P : End → Shared → Prop} {c : Code} {fs : List Frame} {s : Shared}
theorem sx_wrap {α : Type} {m : Sem α} {K : α → Sem Fin} {H : Value → Sem Fin} {gd lv} (h : wpAny (model prog w) (A.over c fs) m (fun a s' => SegY P prog w A c (K a) fs s') (fun x s' => SegY P prog w A c (H x) fs s') s) :
 SegY P prog w A c (m.wrap K H gd lv) fs s := by
 rintro Γ p rfl hΓ
 obtain ⟨e, s', hr, hq⟩ := runs_wrap_of_wp (Φ := fun e s' => e.quiet = true ∧ P e s') K H gd lv m (h (Γ.over fs) p (hΓ.over fs)) (fun a p' s' h' => h' Γ p' rfl hΓ) (fun x p' s' h' => h' Γ p' rfl hΓ)
 exact ⟨e, s', hr, hq⟩
theorem sx_bind {α : Type} {m : Sem α} {K : α → Sem Fin} (h : wpAny (model prog w) (A.over c fs) m (fun a s' => SegY P prog w A c (K a) fs s') (fun x s' => SegY P prog w A c (.raise x) fs s') s) :
 SegY P prog w A c (m >>= K) fs s := by
 rw [Sem.bind_eq_wrap']; exact sx_wrap h
theorem sx_at {p' : Pos} {k : Unit → Sem Fin} (h : SegY P prog w A c (k ()) fs s) : SegY P prog w A c (.at p' k) fs s :=
 sx_wrap (m := standAt p') (K := k) (H := .raise) (gd := id) (lv := id) (wpAny_standAt h)
theorem sx_point {l : List Value} {k : Unit → Sem Fin} (h : SegY P prog w A c (k ()) fs s) : SegY P prog w A c (.point l k) fs s :=
 sx_wrap (m := point) (K := k) (H := .raise) (gd := id) (lv := fun _ => l) (wpAny_point h)
theorem sx_call {c' : Code} {hd g l} {k : Result → Sem Fin} (hc : ∀ p, SegY P prog w A c' ((model prog w).den c') (.ret k hd g l c p [] :: fs) s) : SegY P prog w A c (.call c' hd g l k) fs s := by
 rintro Γ p rfl hΓ
 obtain ⟨e, s', hr, hq⟩ := hc p (Γ.goto c') p rfl (hΓ.goto c')
 exact ⟨e, s', runs_call_seg hr, hq⟩
theorem sx_leaf {k hd g l c₁ p₁ kp} (r : Result) (hk : SegY P prog w A c₁ (k r) fs s) : SegY P prog w A c (leafOf r) (.ret k hd g l c₁ p₁ kp :: fs) s := by
 rintro Γ p rfl hΓ
 obtain ⟨e, s', hr, he⟩ := hk (Γ.goto c₁) p₁ rfl (hΓ.goto c₁)
 exact ⟨e, s', Runs.pop r hr, he⟩
theorem sx_again {c' : Code} (hq : c'.quiet = true) (hc : SegY P prog w A c' ((model prog w).den c') fs s) : SegY P prog w A c (.pure (.again c')) fs s := by
 rintro Γ p rfl hΓ
 obtain ⟨e, s', hr, he⟩ := hc (Γ.goto c') p rfl (hΓ.goto c')
 exact ⟨e, s', Runs.head (c₁ := c') (fun _ _ x => .again hq x) hr, he⟩
theorem sx_end (r : Result) (h : P (.ret r) s) : SegY P prog w A c (leafOf r) [] s := by
 rintro Γ p rfl _
 exact ⟨.ret r, s, Runs.leaf r, rfl, h⟩
theorem sx_yield {v g l} {k : Resume → Sem Fin} (hfs : splitAtGen fs = none) (hg : g = false) (hfg : fs.any Frame.guarded = false) (h : ∀ p, P (.susp v false l k c p fs) s) : SegY P prog w A c (.yield v g l k) fs s := by
 subst hg
 rintro Γ p rfl _
 exact ⟨_, s, Runs.yield' fs hfs, by simp [End.quiet, hfg], h p⟩
end
section
variable {prog : Program} {w : World} {A : Around} {P : End → Shared → Prop} {c : Code} {fs : List Frame} {s : Shared} {env : Env}
 {K : Flow → Sem Fin} {H : Value → Sem Fin} {gd : Bool → Bool} {lv : List Value → List Value}
theorem sx_forLoop {target : Expr} {it : Value} {body orelse : List Stmt} (ht : ∀ v, letOwnedTupleGo target it v = pure ())
 (h : wpAny (model prog w) (A.over (.forLoop target it body orelse env) fs) (pyNext it) (fun r s' => match r with
  | none => SegY P prog w A (.block orelse env) ((model prog w).den (.block orelse env)) fs s'
  | some v => wpAny (model prog w) (A.over (.forLoop target it body orelse env) fs) (assign target env v) (fun _ s'' =>
   SegY P prog w A (.forLoop target it body orelse env) ((execs body env).wrap (fun f => match f with
    | .next | .cont => .pure (.again (.forLoop target it body orelse env))
    | .brk => .pure (.done .next)
    | .ret v => .pure (.done (.ret v))) (fun e => (do noteFrame e env; theTreesLotGoes e : Sem Unit).wrap (fun _ => .raise e) .raise id id) id id) fs s'') (fun _ _ => False) s') (fun _ _ => False) s) :
 SegY P prog w A (.forLoop target it body orelse env) ((model prog w).den (.forLoop target it body orelse env)) fs s := by
 have e : (forTurn target it body orelse env).onRaise (fun x => do noteFrame x env; theTreesLotGoes x) = (.at target.pos fun _ =>
  ((pyNext it).onRaise (fun _ => standAt { target.pos with line := 0 })).wrap (fun r => (match r with
   | none => again (.block orelse env)
   | some v => (letOwnedTupleGo target it v >>= fun _ => assign target env v >>= fun _ => execs body env >>= fun f => match f with
    | .next | .cont => again (.forLoop target it body orelse env)
    | .brk => pure (.done .next)
    | .ret v => pure (.done (.ret v)) : Sem Fin)).wrap .pure (fun e => (do noteFrame e env; theTreesLotGoes e : Sem Unit).wrap (fun _ => .raise e) .raise id id) id id) (fun e => (do noteFrame e env; theTreesLotGoes e : Sem Unit).wrap (fun _ => .raise e) .raise id id) id id) := by
  have e2 : ∀ e : Value, (do noteFrame e env; theTreesLotGoes e : Sem Unit).bind (fun _ => (.raise e : Sem Fin)) = (do noteFrame e env; theTreesLotGoes e : Sem Unit).wrap (fun _ => .raise e) .raise id id := fun e => Sem.bind_eq_wrap _ _
  unfold forTurn
  rw [Sem.onRaise_eq_wrap]
  simp only [e2]
  show Sem.at _ _ = _
  congr 1
  funext _
  show Sem.wrap _ _ _ _ (((pyNext it).onRaise _).bind _) = _
  rw [Sem.bind_eq_wrap, Sem.wrap_wrap]
  rfl
 show SegY P prog w A _ ((forTurn target it body orelse env).onRaise (fun x => do noteFrame x env; theTreesLotGoes x)) fs s
 rw [e]
 refine sx_at (sx_wrap (wpAny_onRaise (wpAny_mono h (fun r s' hr => ?_) fun _ _ x => False.elim x)))
 cases r with
 | none => exact sx_again rfl hr
 | some v =>
  dsimp only at hr ⊢
  rw [ht v, pure_bind, Sem.bind_eq_wrap', Sem.wrap_wrap]
  refine sx_wrap (wpAny_mono hr (fun _ s'' hb => ?_) fun _ _ x => False.elim x)
  rw [Sem.bind_eq_wrap', Sem.wrap_wrap]
  refine cast (congrArg (fun t => SegY P prog w A (.forLoop target it body orelse env) t fs s'') (Sem.wrap_congr (execs body env) id id (fun f => ?_) (fun e => ?_))) hb
  · cases f <;> rfl
  · rfl
theorem sx_For {target iter : Expr} {body orelse : List Stmt} {pos : Pos}
 (h : wpAny (model prog w) (A.over c fs) (eval iter env) (fun x s₁ => wpAny (model prog w) (A.over c fs) (pyIter x) (fun it s₂ => ∀ p, SegY P prog w A (.forLoop target it body orelse env) ((model prog w).den (.forLoop target it body orelse env))
  (.ret (fun r => ((match r with | .ok f => (.pure f : Sem Flow) | .error e => .raise e).onRaise fun (x : Value) => do
   if (← field x 1) == Value.none then unsupported "frame.own-activation:exception-without-traceback"
   setFlight x env.frame).wrap K H gd lv) none (gd false) (lv []) c p [] :: fs) s₂) (fun _ _ => False) s₁) (fun _ _ => False) s)
 (hs : ∀ x, foldedSetIterable iter env x = pure x := by intro _; rfl) :
 SegY P prog w A c ((exec (.For target iter body orelse pos) env).wrap K H gd lv) fs s := by
 have e : (exec (.For target iter body orelse pos) env).wrap K H gd lv = (.at pos fun _ => (eval iter env).wrap (fun x => (foldedSetIterable iter env x >>= fun x => standAt iter.pos >>= fun _ => holding [x] (pyIter x) >>= fun it => runOwn (.forLoop target it body orelse env) env).wrap K H gd lv) H (fun g => gd (id g)) (fun l => lv (id l))) := by
  have e0 : exec (.For target iter body orelse pos) env = (standAt pos >>= fun _ => eval iter env >>= fun x => foldedSetIterable iter env x >>= fun x => standAt iter.pos >>= fun _ => holding [x] (pyIter x) >>= fun it => runOwn (.forLoop target it body orelse env) env) := rfl
  rw [e0]
  show Sem.at _ _ = _
  congr 1
  funext _
  show Sem.wrap K H gd lv ((eval iter env).bind _) = _
  rw [Sem.bind_eq_wrap, Sem.wrap_wrap]
  rfl
 rw [e]
 refine sx_at (sx_wrap (wpAny_mono h (fun x s₁ h₁ => ?_) fun _ _ x => False.elim x))
 rw [hs x, pure_bind]
 have e1 : (standAt iter.pos >>= fun _ => holding [x] (pyIter x) >>= fun it => runOwn (.forLoop target it body orelse env) env).wrap K H gd lv = (.at iter.pos fun _ => (holding [x] (pyIter x)).wrap (fun it => (runOwn (.forLoop target it body orelse env) env).wrap K H gd lv) H (fun g => gd (id g)) (fun l => lv (id l))) := by
  show Sem.at _ _ = _
  congr 1
  funext _
  show Sem.wrap K H gd lv ((holding [x] (pyIter x)).bind _) = _
  rw [Sem.bind_eq_wrap, Sem.wrap_wrap]
  rfl
 rw [e1]
 refine sx_at (sx_wrap (wpAny_holding (wpAny_mono h₁ (fun it s₂ h₂ => ?_) fun _ _ x => False.elim x)))
 exact sx_call h₂
theorem sx_If {test : Expr} {body orelse : List Stmt} {pos : Pos}
 (h : wpAny (model prog w) (A.over c fs) (isTrue test env (eval test env)) (fun b s₁ => if b = true then SegY P prog w A c ((execs body env).wrap K H gd lv) fs s₁ else SegY P prog w A c ((execs orelse env).wrap K H gd lv) fs s₁) (fun _ _ => False) s) :
 SegY P prog w A c ((exec (.If test body orelse pos) env).wrap K H gd lv) fs s := by
 have e : (exec (.If test body orelse pos) env).wrap K H gd lv = (.at pos fun _ => (isTrue test env (eval test env)).wrap (fun b => (if b = true then execs body env else execs orelse env).wrap K H gd lv) H (fun g => gd (id g)) (fun l => lv (id l))) := by
  rw [exec_If]
  show Sem.at _ _ = _
  congr 1
  funext _
  show Sem.wrap K H gd lv ((isTrue test env (eval test env)).bind _) = _
  rw [Sem.bind_eq_wrap, Sem.wrap_wrap]
  rfl
 rw [e]
 refine sx_at (sx_wrap (wpAny_mono h (fun b s₁ h₁ => ?_) fun _ _ x => False.elim x))
 cases b with
 | true => exact h₁
 | false => exact h₁
theorem sx_block_nil (h : SegY P prog w A (.block [] env) (.pure (.done .next)) fs s) : SegY P prog w A (.block [] env) ((model prog w).den (.block [] env)) fs s := h
end
theorem entry_yf : entryFor table "proto.yield_from" = some Builtin.«proto.yield_from» := entryFor_of_tree (by kernel_rfl)
theorem plain_yf : plainId "proto.yield_from" = true := by decide +kernel
theorem listiter_close : typeLookup (.type "list_iterator") "close" = pure none := by rw [typeLookup_type, builtinLookup_eq_fast]; kernel_rfl
section
variable {prog : Program} {w : World} {A : Around} {E : Value → Shared → Prop} {s : Shared}
theorem next_item {it l : Addr} {i : Nat} {items : Array Value} {x : Value} {Q : Option Value → Shared → Prop} (hit : s.heap.IsListIter it l i)
 (hl : s.heap.IsList l items) (hx : items[i]? = some x)
 (hQ : ∀ h', h'.IsListIter it l (i + 1) → Heap.SameBut it s.heap h' → Q (some x) { s with heap := h' }) :
 wpAny (model prog w) A (callSpecial? (.ref it) (ofString "__next__")) Q E s := by
 obtain ⟨o, ho, hc, hd⟩ := id hit
 obtain ⟨ol, hol, _, nl, hdl⟩ := hl
 refine wpAny_callSpecial?_slot (name := ofString "__next__") hit.typeIs slot_listiter_next
  (wpAny_call_entry slot_listiter_next hit.typeIs entry_listiter_next ?_ (args_listiter_next _))
 show wpAny _ _ (field (.ref it) 0 >>= _) _ _ s
 refine wpAny_bind (wpAny_field ho hd (x := .ref l) rfl ?_)
 show wpAny _ _ (if (Value.ref l == Value.none) = true then _ else _) _ _ s
 rw [if_neg (show ¬ ((Value.ref l == Value.none) = true) from Bool.false_ne_true)]
 show wpAny _ _ (field (.ref it) 1 >>= _) _ _ s
 refine wpAny_bind (wpAny_field ho hd (x := .int i 0) rfl ?_)
 show wpAny _ _ (seqItems? (.ref l) >>= _) _ _ s
 refine wpAny_bind (wpAny_seqItems hol hdl ?_)
 simp only [Int.toNat_natCast, hx]
 refine wpAny_bind (wpAny_setField ho hd (by simp) (wpAny_pure ⟨x, rfl, hQ _ ?_ (Heap.SameBut.update ..)⟩))
 exact ⟨_, Heap.get?_update_self _ ho (Obj.isFreed_of_fields (Obj.data_mapFields hd _)), (Obj.cls_mapFields ..).trans hc, by
  rw [Obj.data_mapFields hd]; simp [rawInt]⟩
theorem next_end {it l : Addr} {i : Nat} {items : Array Value} {Q : Option Value → Shared → Prop} (hh : A.handled = none) (hit : s.heap.IsListIter it l i)
 (hl : s.heap.IsList l items) (hx : items[i]? = none)
 (hE : ∀ h' e o vs, Heap.ExtBut it s.heap h' → h'.get? e = some o → o.cls = .type "StopIteration" → o.data = .fields vs → vs[5]? = some .none → E (.ref e) { s with heap := h' }) :
 wpAny (model prog w) A (callSpecial? (.ref it) (ofString "__next__")) Q E s := by
 obtain ⟨o, ho, hc, hd⟩ := id hit
 obtain ⟨ol, hol, _, nl, hdl⟩ := hl
 refine wpAny_callSpecial?_slot (name := ofString "__next__") hit.typeIs slot_listiter_next
  (wpAny_call_entry slot_listiter_next hit.typeIs entry_listiter_next ?_ (args_listiter_next _))
 show wpAny _ _ (field (.ref it) 0 >>= _) _ _ s
 refine wpAny_bind (wpAny_field ho hd (x := .ref l) rfl ?_)
 show wpAny _ _ (if (Value.ref l == Value.none) = true then _ else _) _ _ s
 rw [if_neg (show ¬ ((Value.ref l == Value.none) = true) from Bool.false_ne_true)]
 show wpAny _ _ (field (.ref it) 1 >>= _) _ _ s
 refine wpAny_bind (wpAny_field ho hd (x := .int i 0) rfl ?_)
 show wpAny _ _ (seqItems? (.ref l) >>= _) _ _ s
 refine wpAny_bind (wpAny_seqItems hol hdl ?_)
 simp only [Int.toNat_natCast, hx]
 refine wpAny_bind (wpAny_rule (wpAny_bind (wpAny_setField ho hd (by simp) ?_)))
 show wpAny _ _ (newExc (.type "StopIteration") [] >>= _) _ _ _
 refine wpAny_bind ?_
 simp only [newExc, newTuple]
 refine wpAny_bind (wpAny_newObj_type ?_ (by size_fits))
 refine wpAny_bind (m := firstArgMember _ _) (wpAny_of_eq (a := Value.none) (by first | rfl | (simp only [firstArgMember]; rfl)) ?_)
 refine wpAny_newObj_type ?_ (by size_fits)
 simp only [raiseNew]
 refine wpAny_bind (wpAny_handled ?_)
 rw [show A.in1.handled = none from hh]
 refine wpAny_bind (wpAny_pure (wpAny_throw ?_))
 refine hE _ _ _ _ (((Heap.SameBut.update ..).extBut.push _).push _) (Heap.get?_push_size _ rfl) rfl rfl ?_
 rfl
end
section
variable {prog : Program} {w : World} {A : Around} {P : End → Shared → Prop} {fs : List Frame} {s : Shared}
theorem den_builtin {id : String} {args : Args} {b : Builtin} (hb : entryFor table id = some b) : (model prog w).den (.builtin id args) = b args := by
 show denote table (.builtin id args) = b args
 rw [denote, hb]
noncomputable abbrev yfCode (it : Addr) : Code := .builtin "proto.yield_from" ⟨[.ref it, .bool false, .none], []⟩
theorem sx_yf_item {it l : Addr} {i : Nat} {items : Array Value} {x : Value} (hit : s.heap.IsListIter it l i) (hl : s.heap.IsList l items) (hx : items[i]? = some x)
 (hfs : splitAtGen fs = none) (hfg : fs.any Frame.guarded = false)
 (h : ∀ h', h'.IsListIter it l (i + 1) → Heap.SameBut it s.heap h' → ∀ (l' : List Value) (k : Resume → Sem Fin) (p : Pos),
  (∀ (P' : End → Shared → Prop) (A' : Around) (s'' : Shared) (j : Nat), s''.heap.IsListIter it l j → SegY P' prog w A' (yfCode it) ((model prog w).den (yfCode it)) fs s'' → SegY P' prog w A' (yfCode it) (k (.send .none)) fs s'') →
  P (.susp x false l' k (yfCode it) p fs) { s with heap := h' }) :
 SegY P prog w A (yfCode it) ((model prog w).den (yfCode it)) fs s := by
 rw [den_builtin entry_yf]
 unfold Builtin.«proto.yield_from»
 dsimp only
 rw [pure_bind]
 refine sx_bind (wpAny_attempt (wpAny_holding ?_))
 rw [if_neg Bool.false_ne_true, if_pos (show (Value.none == Value.none) = true from rfl)]
 refine wpAny_bind (wpAny_rule (wpAny_bind (next_item hit hl hx (fun h' hit' hsb => ?_))))
 refine wpAny_pure ?_
 dsimp only
 refine sx_bind (wpAny_typeOf (s := { s with heap := h' }) hit'.typeIs ?_)
 dsimp only
 refine sx_bind (wpAny_of_eq listiter_close ?_)
 rw [pure_bind]
 have sl : ∀ (s' : Shared) (j : Nat) (b : Bool) (Q : Unit → Shared → Prop) (E : Value → Shared → Prop) (A' : Around), s'.heap.IsListIter it l j → Q () s' → wpAny (model prog w) A' (Builtin.Generator.sleptOver (.ref it) b) Q E s' := by
  intro s' j b Q E A' hi hq
  obtain ⟨o, ho, hc, hd⟩ := hi
  unfold Builtin.Generator.sleptOver
  refine wpAny_bind (wpAny_load ho ?_)
  rw [if_pos (by rw [hc]; decide)]
  exact wpAny_pure hq
 refine sx_bind (sl _ _ _ _ _ _ hit' ?_)
 show SegY P prog w A _ (.yield x _ [] _) fs _
 refine sx_yield hfs rfl hfg ?_
 intro p
 refine h h' hit' hsb _ _ p (fun P' A' s'' j hj hs => ?_)
 show SegY P' prog w A' _ (Builtin.Generator.sleptOver (.ref it) false >>= _) fs s''
 refine sx_bind (sl _ _ _ _ _ _ hj ?_)
 exact sx_again (plainId_quiet plain_yf _) hs
theorem sx_yf_end {it l : Addr} {i : Nat} {items : Array Value} (hit : s.heap.IsListIter it l i) (hl : s.heap.IsList l items) (hx : items[i]? = none) (hh : (A.over (yfCode it) fs).handled = none)
 (h : ∀ h', Heap.ExtBut it s.heap h' → SegY P prog w A (yfCode it) (.pure (.done (.ret .none))) fs { s with heap := h' }) :
 SegY P prog w A (yfCode it) ((model prog w).den (yfCode it)) fs s := by
 rw [den_builtin entry_yf]
 unfold Builtin.«proto.yield_from»
 dsimp only
 rw [pure_bind]
 refine sx_bind (wpAny_attempt (wpAny_holding ?_))
 rw [if_neg Bool.false_ne_true, if_pos (show (Value.none == Value.none) = true from rfl)]
 refine wpAny_bind (wpAny_rule (wpAny_bind (next_end hh hit hl hx (fun h' e o vs hex ho hc hd h5 => ?_))))
 dsimp only
 have T : (⟨h', s.gens, s.drawn, s.toks, s.os⟩ : Shared).TypeIs (.ref e) "StopIteration" := ⟨o, ho, hc⟩
 refine sx_bind ?_
 unfold Builtin.Generator.endsTheTurnAsAValue Builtin.Generator.isStopAndMetaclass
 refine wpAny_bind (wpAny_bind (wpAny_typeOf T ?_))
 dsimp only
 refine wpAny_bind (wpAny_of_eq isSubtype_stop ?_)
 refine wpAny_bind (wpAny_of_eq (a := Value.type "type") (by first | rfl | kernel_rfl) ?_)
 refine wpAny_pure ?_
 dsimp only
 rw [if_neg Bool.false_ne_true]
 refine wpAny_pure ?_
 rw [if_pos rfl, if_neg Bool.false_ne_true]
 refine sx_bind (wpAny_rule ?_)
 refine sx_bind (wpAny_field ho hd h5 ?_)
 exact h h' hex
end
section
variable {prog : Program} {w : World} {A : Around} {P : End → Shared → Prop} {c : Code} {fs : List Frame} {s : Shared} {env : Env}
 {K : Flow → Sem Fin} {H : Value → Sem Fin} {gd : Bool → Bool} {lv : List Value → List Value}
theorem sx_execs_nil (h : SegY P prog w A c (K .next) fs s) : SegY P prog w A c ((execs [] env).wrap K H gd lv) fs s := h
theorem sx_execs_cons {st : Stmt} {rest : List Stmt}
 (h : SegY P prog w A c ((exec st env).wrap (fun f => match f with | .next => (execs rest env).wrap K H gd lv | f => K f) H gd lv) fs s) :
 SegY P prog w A c ((execs (st :: rest) env).wrap K H gd lv) fs s := by rw [execs_cons_wrap]; exact h
theorem sx_func {body : List Stmt}
 (h : SegY P prog w A (.func body env) ((execs body env).wrap (fun f => .pure (.done (.ret (match f with | .ret v => v | _ => .none))))
  (fun e => (leaving env e).wrap (fun _ => .raise e) .raise id id) id id) fs s) :
 SegY P prog w A (.func body env) ((model prog w).den (.func body env)) fs s := by
 show SegY P prog w A _ (.point [] fun _ => ((execs body env).onRaise (leaving env)) >>= _) fs s
 refine sx_point ?_
 rw [Sem.onRaise_eq_wrap, Sem.bind_eq_wrap', Sem.wrap_wrap]
 rw [Sem.wrap_congr (execs body env) _ _ (K' := fun f => .pure (.done (.ret (match f with | .ret v => v | _ => .none))))
  (H' := fun e => (leaving env e).wrap (fun _ => .raise e) .raise id id) (fun f => by cases f <;> rfl)
  (fun e => by rw [Sem.bind_eq_wrap, Sem.wrap_wrap]; rfl)]
 exact h
structure YFr (prog : Program) (w : World) (c : Code) (fs : List Frame) (t : Sem Fin) (fr : Frame) : Prop where
 guarded : fr.guarded = false
 split : splitAtGen fs = none → splitAtGen (fr :: fs) = none
 handled : ∀ (A : Around) c', (A.over c' (fr :: fs)).handled = (A.over c' fs).handled
 pop : ∀ (P : End → Shared → Prop) (A : Around) (s : Shared) (c' : Code), SegY P prog w A c t fs s → SegY P prog w A c' (.pure (.done (.ret .none))) (fr :: fs) s
theorem sx_YieldFrom {e : Expr} {ypos pos : Pos} (hgd : gd false = false)
 (h : wpAny (model prog w) (A.over c fs) (eval e env) (fun v s₁ => ∃ l items, v = .ref l ∧ s₁.heap.IsList l items ∧ ∀ fr, YFr prog w c fs (K .next) fr →
  SegY P prog w A (yfCode s₁.heap.objs.size) ((model prog w).den (yfCode s₁.heap.objs.size)) (fr :: fs) { s₁ with heap := s₁.heap.push { cls := .type "list_iterator", data := .fields #[.ref l, .int 0 0] } }) (fun _ _ => False) s)
 (hi : interactive env = false := by rfl) :
 SegY P prog w A c ((exec (.Expr (.YieldFrom e ypos) pos) env).wrap K H gd lv) fs s := by
 rw [exec_Expr env _ pos hi rfl]
 show SegY P prog w A c (.at pos fun _ => ((eval e env >>= fun v => (standAt ypos >>= fun _ => yieldFrom env v)) >>= fun x =>
  dropValue (.YieldFrom e ypos) pos x).wrap K H gd lv) fs s
 refine sx_at ?_
 rw [Sem.bind_eq_wrap', Sem.bind_eq_wrap', Sem.wrap_wrap, Sem.wrap_wrap]
 refine sx_wrap (wpAny_mono h (fun v s₁ h₁ => ?_) fun _ _ x => False.elim x)
 obtain ⟨l, items, rfl, hl, hk⟩ := h₁
 have T : s₁.TypeIs (.ref l) "list" := hl.typeIs
 rw [Sem.bind_eq_wrap', Sem.wrap_wrap]
 refine sx_wrap (wpAny_standAt ?_)
 unfold yieldFrom
 rw [Sem.bind_eq_wrap', Sem.wrap_wrap]
 refine sx_wrap (wpAny_typeOf T ?_)
 rw [if_neg (show ¬ ((Value.type "list" == Value.type "coroutine") = true) from by decide)]
 rw [Sem.bind_eq_wrap', Sem.wrap_wrap]
 refine sx_wrap (wpAny_holding (wpAny_pyIter_list hl ?_))
 refine sx_call (fun p => hk _ ⟨?_, ?_, ?_, ?_⟩)
 · show gd _ = false
   exact hgd
 · intro q
   show (splitAtGen fs).map _ = none
   rw [q]; rfl
 · intro A c'
   rfl
 · intro P A s c' hn
   exact sx_leaf (.ok (.ret .none)) hn
end
theorem ne_of_data {h : Heap} {a b : Addr} {o o' : Obj} (ea : h.get? a = some o) (eb : h.get? b = some o') (hd : o.data ≠ o'.data) : a ≠ b := by
 rintro rfl
 rw [ea] at eb
 cases eb
 exact hd rfl
theorem ne_of_cls {h : Heap} {a b : Addr} {o o' : Obj} (ea : h.get? a = some o) (eb : h.get? b = some o') (hd : o.cls ≠ o'.cls) : a ≠ b := by
 rintro rfl
 rw [ea] at eb
 cases eb
 exact hd rfl
structure KeepsBut (fp : List Addr) (s s' : Shared) : Prop where
 heap : ∀ b o, b ∉ fp → s.heap.get? b = some o → s'.heap.get? b = some o
 gens : s'.gens = s.gens
 os : s'.os = s.os
theorem KeepsBut.refl (fp : List Addr) (s : Shared) : KeepsBut fp s s := ⟨fun _ _ _ e => e, rfl, rfl⟩
theorem KeepsBut.ext {fp : List Addr} {sb s : Shared} (k : KeepsBut fp sb s) {a : Addr} {h' : Heap} {t : Nat} (ha : a ∈ fp ∨ sb.heap.get? a = none) (hx : Heap.ExtBut a s.heap h') : KeepsBut fp sb { s with heap := h', toks := t } := by
 refine ⟨fun b o hb e => hx b o ?_ (k.heap b o hb e), k.gens, k.os⟩
 rintro rfl
 rcases ha with ha | ha
 · exact hb ha
 · rw [ha] at e; cases e
theorem KeepsBut.push {fp : List Addr} {sb s : Shared} (k : KeepsBut fp sb s) (o : Obj) {t : Nat} : KeepsBut fp sb { s with heap := s.heap.push o, toks := t } :=
 ⟨fun b o' hb e => Heap.get?_push_of_some _ (k.heap b o' hb e), k.gens, k.os⟩
theorem KeepsBut.tok {fp : List Addr} {sb s : Shared} (k : KeepsBut fp sb s) {t : Nat} : KeepsBut fp sb { s with toks := t } := ⟨k.heap, k.gens, k.os⟩
noncomputable abbrev Lv := Addr × Array Value
noncomputable def outs (l : List Lv) : List Value := (l.reverse.map (·.2.toList)).flatten
theorem outs_succ (li : List Lv) (i : Nat) (p : Lv) (h : li[i]? = some p) : outs (li.take (i + 1)) = p.2.toList ++ outs (li.take i) := by
 unfold outs
 rw [List.take_add_one, h]
 simp
theorem outs_zero (li : List Lv) : outs (li.take 0) = [] := by simp [outs]
structure StkH (h : Heap) (st : Addr) (li : List Lv) : Prop where
 lst : h.IsList st (li.map fun p => Value.ref p.1).toArray
 lv : ∀ p ∈ li, h.IsList p.1 p.2
theorem IsList.ext {h h' : Heap} {a b : Addr} {its : Array Value} {o : Obj} (x : h.IsList b its) (hx : Heap.ExtBut a h h') (ha : h.get? a = some o) (hn : ∀ xs n, o.data ≠ .seq xs n) : h'.IsList b its := by
 obtain ⟨ob, hb, hc, n, hd⟩ := x
 exact ⟨ob, hx b ob (ne_of_data hb ha (by rw [hd]; exact fun e => hn _ _ e.symm)) hb, hc, n, hd⟩
theorem StkH.ext {h h' : Heap} {st a : Addr} {li : List Lv} {o : Obj} (x : StkH h st li) (hx : Heap.ExtBut a h h') (ha : h.get? a = some o) (hn : ∀ xs n, o.data ≠ .seq xs n) : StkH h' st li :=
 ⟨IsList.ext x.lst hx ha hn, fun p hp => IsList.ext (x.lv p hp) hx ha hn⟩
theorem StkH.push {h : Heap} {st : Addr} {li : List Lv} (x : StkH h st li) (o : Obj) : StkH (h.push o) st li :=
 ⟨x.lst.at fun _ e => Heap.get?_push_of_some _ e, fun p hp => (x.lv p hp).at fun _ e => Heap.get?_push_of_some _ e⟩
structure SuspH (h : Heap) (Lg st : Addr) (li : List Lv) (rv it la : Addr) (its : Array Value) (j i : Nat) : Prop where
 stk : StkH h st li
 ns : ∃ m, h.Ns Lg m
 rv : h.IsRevIter rv st ((i : Int) - 1)
 it : h.IsListIter it la j
 la : (la, its) ∈ li
 hi : i ≤ li.length
noncomputable def EndP (Lg st : Addr) (li : List Lv) (next : Addr → Addr → Addr → Array Value → Nat → Nat → GenState → Prop) (fp : List Addr) (xs : List Value) (sb : Shared) (e : End) (s' : Shared) : Prop :=
 match e with
 | .ret r => xs = [] ∧ r = .ok (.ret .none) ∧ KeepsBut fp sb s'
 | .susp v gd l k c p fs => ∃ rv it la its j i, xs = v :: (its.toList.drop j ++ outs (li.take i)) ∧ SuspH s'.heap Lg st li rv it la its j i ∧ KeepsBut fp sb s' ∧
  (rv ∈ fp ∨ sb.heap.get? rv = none) ∧ (it ∈ fp ∨ sb.heap.get? it = none) ∧ next rv it la its j i (End.genState (.susp v gd l k c p fs))
noncomputable def ResP (prog : Program) (w : World) (A : Around) (Lg st : Addr) (li : List Lv) (next : Addr → Addr → Addr → Array Value → Nat → Nat → GenState → Prop) (rv it la : Addr) (its : Array Value) (j i : Nat) (gs : GenState) : Prop :=
 ∃ k l c p fs cl, gs = .suspended k l c p fs cl ∧ ∀ s, SuspH s.heap Lg st li rv it la its j i →
  SegY (EndP Lg st li next [Lg, rv, it] (its.toList.drop j ++ outs (li.take i)) s) prog w A c (k (.send .none)) fs s
noncomputable def GoesNs (prog : Program) (w : World) (A : Around) (Lg st : Addr) (li : List Lv) : Nat → Addr → Addr → Addr → Array Value → Nat → Nat → GenState → Prop
 | 0 => ResP prog w A Lg st li fun _ _ _ _ _ _ _ => False
 | n + 1 => ResP prog w A Lg st li (GoesNs prog w A Lg st li n)
noncomputable def nextP (prog : Program) (w : World) (A : Around) (Lg st : Addr) (li : List Lv) : Nat → Addr → Addr → Addr → Array Value → Nat → Nat → GenState → Prop
 | 0 => fun _ _ _ _ _ _ _ => False
 | n + 1 => GoesNs prog w A Lg st li n
theorem GoesNs_eq (prog : Program) (w : World) (A : Around) (Lg st : Addr) (li : List Lv) (n : Nat) : GoesNs prog w A Lg st li n = ResP prog w A Lg st li (nextP prog w A Lg st li n) := by
 cases n <;> rfl
structure FsOk (prog : Program) (w : World) (fs : List Frame) : Prop where
 split : splitAtGen fs = none
 guard : fs.any Frame.guarded = false
 handled : ∀ (A : Around) c', (A.over c' fs).handled = A.handled
 fin : ∀ (P : End → Shared → Prop) (A : Around) (s : Shared) (c' : Code), P (.ret (.ok (.ret .none))) s → SegY P prog w A c' (.pure (.done .next)) fs s
section
variable {prog : Program} {w : World} {A : Around} {qual : Str} {scope : Scope} {Lg f st : Addr} {cd : Value} {li : List Lv} {p1 p5 p6 p7 p8 p9 : Pos} {fs : List Frame}
noncomputable abbrev nsLoop (p1 p5 p6 p7 p8 p9 : Pos) (rv : Addr) (env : Env) : Code :=
 .forLoop (.Name (ofString "namespaces") p1) (.ref rv) [.If (.Name (ofString "namespaces") p5) [.Expr (.YieldFrom (.Name (ofString "namespaces") p6) p7) p8] [] p9] [] env
noncomputable def OuterS (prog : Program) (w : World) (A : Around) (env : Env) (Lg st : Addr) (li : List Lv) (p1 p5 p6 p7 p8 p9 : Pos) (fs : List Frame) (n i : Nat) : Prop :=
 ∀ (sb s : Shared) (fp : List Addr) (rv : Addr), (outs (li.take i)).length = n → Lg ∈ fp → (rv ∈ fp ∨ sb.heap.get? rv = none) → StkH s.heap st li → (∃ m, s.heap.Ns Lg m) → s.heap.IsRevIter rv st ((i : Int) - 1) → KeepsBut fp sb s →
  SegY (EndP Lg st li (nextP prog w A Lg st li n) fp (outs (li.take i)) sb) prog w A (nsLoop p1 p5 p6 p7 p8 p9 rv env) ((model prog w).den (nsLoop p1 p5 p6 p7 p8 p9 rv env)) fs s
noncomputable def InnerS (prog : Program) (w : World) (A : Around) (env : Env) (Lg st : Addr) (li : List Lv) (p1 p5 p6 p7 p8 p9 : Pos) (fs : List Frame) (n i : Nat) : Prop :=
 ∀ (sb s : Shared) (fp : List Addr) (rv it la : Addr) (its : Array Value) (j : Nat) (fr : Frame), (its.toList.drop j ++ outs (li.take i)).length = n → Lg ∈ fp → (rv ∈ fp ∨ sb.heap.get? rv = none) → (it ∈ fp ∨ sb.heap.get? it = none) →
  SuspH s.heap Lg st li rv it la its j i → KeepsBut fp sb s → YFr prog w (nsLoop p1 p5 p6 p7 p8 p9 rv env) fs (.pure (.again (nsLoop p1 p5 p6 p7 p8 p9 rv env))) fr →
  SegY (EndP Lg st li (nextP prog w A Lg st li n) fp (its.toList.drop j ++ outs (li.take i)) sb) prog w A (yfCode it) ((model prog w).den (yfCode it)) (fr :: fs) s
theorem Ns.extO {h h' : Heap} {L a : Addr} {m : Str → Option Value} {o : Obj} (x : h.Ns L m) (hx : Heap.ExtBut a h h') (ha : h.get? a = some o) (hn : ∀ es ep, o.data ≠ .dict es ep) : h'.Ns L m := by
 obtain ⟨oL, es, ep, e, hd, r⟩ := x
 exact ⟨oL, es, ep, hx L oL (ne_of_data e ha (by rw [hd]; exact fun q => hn _ _ q.symm)) e, hd, r⟩
theorem RevIter.extO {h h' : Heap} {rv l a : Addr} {i : Int} {o : Obj} (x : h.IsRevIter rv l i) (hx : Heap.ExtBut a h h') (ha : h.get? a = some o) (hn : o.cls ≠ .type "list_reverseiterator") : h'.IsRevIter rv l i := by
 obtain ⟨ob, e, hc, hd⟩ := x
 exact ⟨ob, hx rv ob (ne_of_cls e ha (by rw [hc]; exact fun q => hn q.symm)) e, hc, hd⟩
theorem ns_inner (hh : A.handled = none) (ok : FsOk prog w fs) {n : Nat} {env : Env} (hin : ∀ m, n = m + 1 → ∀ i, i ≤ li.length → InnerS prog w A env Lg st li p1 p5 p6 p7 p8 p9 fs m i)
 {i : Nat} (hi : i ≤ li.length) (ho : OuterS prog w A env Lg st li p1 p5 p6 p7 p8 p9 fs n i) : InnerS prog w A env Lg st li p1 p5 p6 p7 p8 p9 fs n i := by
 intro sb s fp rv it la its j fr hn hL hrv hit S k yf
 obtain ⟨oit, eit, hcit, hdit⟩ := id S.it
 have hlist : s.heap.IsList la its := S.stk.lv _ S.la
 cases hx : its[j]? with
 | none =>
  have hd : its.toList.drop j = [] := by
   rw [List.drop_eq_nil_iff]
   have := Array.getElem?_eq_none_iff.mp hx
   simpa using this
  refine sx_yf_end S.it hlist hx (by rw [yf.handled, ok.handled]; exact hh) (fun h' hex => ?_)
  have hex' : Heap.ExtBut it s.heap h' := hex
  rw [hd, List.nil_append] at hn ⊢
  refine yf.pop _ _ _ _ (sx_again rfl ?_)
  refine ho sb _ fp rv hn hL hrv (S.stk.ext hex' eit (by rw [hdit]; intro _ _ q; cases q)) ?_ (RevIter.extO S.rv hex' eit (by rw [hcit]; decide)) (k.ext hit hex')
  obtain ⟨m, hm⟩ := S.ns
  exact ⟨m, Ns.extO hm hex' eit (by rw [hdit]; intro _ _ q; cases q)⟩
 | some x =>
  have hlt : j < its.size := (Array.getElem?_eq_some_iff.mp hx).1
  have hd : its.toList.drop j = x :: its.toList.drop (j + 1) := by
   rw [List.drop_eq_getElem_cons (by simpa using hlt)]
   congr 1
   have := (Array.getElem?_eq_some_iff.mp hx).2
   simpa using this
  have hg : (fr :: fs).any Frame.guarded = false := by rw [List.any_cons, yf.guarded, ok.guard]; rfl
  refine sx_yf_item S.it hlist hx (yf.split ok.split) hg (fun h' hit' hsb l' kk p hkk => ?_)
  have hex : Heap.ExtBut it s.heap h' := hsb.extBut
  have S' : SuspH h' Lg st li rv it la its (j + 1) i := by
   obtain ⟨m, hm⟩ := S.ns
   exact ⟨S.stk.ext hex eit (by rw [hdit]; intro _ _ q; cases q), ⟨m, Ns.extO hm hex eit (by rw [hdit]; intro _ _ q; cases q)⟩, RevIter.extO S.rv hex eit (by rw [hcit]; decide), hit', S.la, S.hi⟩
  refine ⟨rv, it, la, its, j + 1, i, by rw [hd]; rfl, S', k.ext hit hex, hrv, hit, ?_⟩
  cases n with
  | zero => rw [hd] at hn; simp at hn
  | succ n =>
   show GoesNs prog w A Lg st li n rv it la its (j + 1) i _
   rw [GoesNs_eq]
   refine ⟨kk, l', yfCode it, p, fr :: fs, _, rfl, fun s'' S'' => ?_⟩
   refine hkk _ _ _ (j + 1) S''.it ?_
   exact hin n rfl i hi s'' s'' [Lg, rv, it] rv it la its (j + 1) fr (by rw [hd] at hn; simpa using hn) (.head _) (.inl (.tail _ (.head _))) (.inl (.tail _ (.tail _ (.head _)))) S'' (.refl _ _) yf
theorem ns_outer (hh : A.handled = none) (hk : scope.kind = .function) (hl : (envOf qual scope Lg f cd).kindOf (ofString "namespaces") = some .local) (hsz : ∀ p ∈ li, (p.2.size : Int) < 2 ^ 63) (ok : FsOk prog w fs) {n : Nat}
 (hin : ∀ m, n = m + 1 → ∀ i, i ≤ li.length → InnerS prog w A (envOf qual scope Lg f cd) Lg st li p1 p5 p6 p7 p8 p9 fs m i) :
 ∀ i, i ≤ li.length → OuterS prog w A (envOf qual scope Lg f cd) Lg st li p1 p5 p6 p7 p8 p9 fs n i := by
 intro i
 induction i with
 | zero =>
  intro hi sb s fp rv hn hL hrv stk ns hr k
  refine sx_forLoop (fun _ => rfl) ?_
  have hr' : s.heap.IsRevIter rv st (-1) := by simpa using hr
  refine wpAny_pyNext_rev_end (by rw [ok.handled]; exact hh) hr' (fun h' hex => ?_)
  refine sx_block_nil (ok.fin _ _ _ _ ?_)
  exact ⟨outs_zero li, rfl, k.ext hrv hex⟩
 | succ i ih =>
  intro hi sb s fp rv hn hL hrv stk ns hr k
  have ih := ih (by lia)
  have hin' := ns_inner (p1 := p1) (p5 := p5) (p6 := p6) (p7 := p7) (p8 := p8) (p9 := p9) hh ok hin (i := i) (by lia) ih
  obtain ⟨⟨la, its⟩, hp⟩ : ∃ q, li[i]? = some q := ⟨li[i]'(by lia), by simp⟩
  have hmem : (la, its) ∈ li := List.mem_of_getElem? hp
  have hout := outs_succ li i _ hp
  dsimp only at hout
  have hr' : s.heap.IsRevIter rv st (i : Int) := by
   have e : (((i + 1 : Nat) : Int) - 1) = (i : Int) := by lia
   rw [e] at hr; exact hr
  obtain ⟨orv, erv, hcrv, hdrv⟩ := id hr'
  refine sx_forLoop (fun _ => rfl) ?_
  refine wpAny_pyNext_rev_item hr' stk.lst (x := .ref la) (by simp [hp]) (fun h' hr₁ hsb => ?_)
  have hex : Heap.ExtBut rv s.heap h' := hsb.extBut
  have nd : ∀ xs n, orv.data ≠ .seq xs n := by rw [hdrv]; intro _ _ q; cases q
  have stk₁ : StkH h' st li := stk.ext hex erv nd
  obtain ⟨m, hm⟩ := ns
  have ns₁ : h'.Ns Lg m := Ns.extO hm hex erv (by rw [hdrv]; intro _ _ q; cases q)
  have k₁ : KeepsBut fp sb { s with heap := h' } := k.ext (t := s.toks) hrv hex
  show wpAny _ _ (standAt _ >>= fun _ => bindName _ _ _) _ _ _
  refine wpAny_bind (wpAny_standAt (wpAny_bindName (wpAny_storeName_local (s := { s with heap := h' }) hl ns₁ (fun h₂ ns₂ hsb₂ => ?_) (by show (scope.kind == .class || (scope.kind == .module && _)) = false; rw [hk]; rfl))))
  obtain ⟨oL, esL, epL, eL, hdL, _⟩ := ns₁
  have hex₂ : Heap.ExtBut Lg h' h₂ := hsb₂.extBut
  have ndL : ∀ xs n, oL.data ≠ .seq xs n := by rw [hdL]; intro _ _ q; cases q
  have stk₂ : StkH h₂ st li := stk₁.ext hex₂ eL ndL
  have hr₂ : h₂.IsRevIter rv st ((i : Int) - 1) := by
   obtain ⟨ob, e, hc, hd⟩ := hr₁
   exact ⟨ob, hex₂ rv ob (ne_of_data e eL (by rw [hd, hdL]; intro q; cases q)) e, hc, hd⟩
  have k₂ := KeepsBut.ext (t := s.toks + 1) k₁ (.inl hL) hex₂
  refine sx_execs_cons (sx_If ?_)
  have lv₂ : h₂.IsList la its := stk₂.lv _ hmem
  have lk : (updM m (ofString "namespaces") (Value.ref la)) (ofString "namespaces") = some (Value.ref la) := if_pos rfl
  refine wpAny_isTrue_value ?_
  refine wpAny_Name ?_
  refine wpAny_loadName_local hk hl ns₂ lk ?_
  have hs := hsz (la, its) hmem
  refine wpAny_truthy_list lv₂ hs ?_
  cases he : its.isEmpty with
  | true =>
   have hnil : its.toList = [] := by
    have := Array.isEmpty_iff.mp he
    rw [this]
   simp only [Bool.not_true, Bool.false_eq_true, if_false]
   refine sx_execs_nil (sx_execs_nil (sx_again rfl ?_))
   rw [hout, hnil, List.nil_append] at hn ⊢
   exact ih sb _ fp rv hn hL hrv stk₂ ⟨_, ns₂⟩ hr₂ k₂.tok
  | false =>
   simp only [Bool.not_false, if_true]
   refine sx_execs_cons (sx_YieldFrom rfl ?_ (by show (scope.kind == .module && (scope.more.any _)) = false; rw [hk]; rfl))
   refine wpAny_Name ?_
   refine wpAny_loadName_local hk hl ns₂ lk ?_
   refine ⟨la, its, rfl, lv₂, fun fr yf => ?_⟩
   rw [hout] at hn ⊢
   have hz : its.toList.drop 0 = its.toList := rfl
   rw [← hz] at hn ⊢
   have hnone : sb.heap.get? h₂.objs.size = none ∨ h₂.objs.size ∈ fp := by
    by_cases q : h₂.objs.size ∈ fp
    · exact .inr q
    · left
      cases e : sb.heap.get? h₂.objs.size with
      | none => rfl
      | some o => exact absurd (Heap.lt_size (k₂.heap _ _ q e)) (Nat.lt_irrefl _)
   refine hin' sb _ fp rv h₂.objs.size la its 0 fr hn hL hrv hnone.symm ⟨stk₂.push _, ⟨_, ns₂.push _⟩, hr₂.at fun _ e => Heap.get?_push_of_some _ e, ⟨_, Heap.get?_push_size _ rfl, rfl, rfl⟩, hmem, by lia⟩ (k₂.push _) yf
theorem ns_all (hh : A.handled = none) (hk : scope.kind = .function) (hl : (envOf qual scope Lg f cd).kindOf (ofString "namespaces") = some .local) (hsz : ∀ p ∈ li, (p.2.size : Int) < 2 ^ 63) (ok : FsOk prog w fs) (n : Nat) :
 ∀ i, i ≤ li.length → OuterS prog w A (envOf qual scope Lg f cd) Lg st li p1 p5 p6 p7 p8 p9 fs n i ∧ InnerS prog w A (envOf qual scope Lg f cd) Lg st li p1 p5 p6 p7 p8 p9 fs n i := by
 induction n with
 | zero =>
  intro i hi
  have o := ns_outer (p1 := p1) (p5 := p5) (p6 := p6) (p7 := p7) (p8 := p8) (p9 := p9) (A := A) (st := st) hh hk hl hsz ok (n := 0) (fun m e => by lia) i hi
  exact ⟨o, ns_inner hh ok (fun m e => by lia) hi o⟩
 | succ n ih =>
  intro i hi
  have hin : ∀ m, n + 1 = m + 1 → ∀ i, i ≤ li.length → InnerS prog w A (envOf qual scope Lg f cd) Lg st li p1 p5 p6 p7 p8 p9 fs m i := fun m e i hi => by
   have : m = n := by lia
   subst this
   exact (ih i hi).2
  have o := ns_outer (p1 := p1) (p5 := p5) (p6 := p6) (p7 := p7) (p8 := p8) (p9 := p9) hh hk hl hsz ok hin i hi
  exact ⟨o, ns_inner hh ok hin hi o⟩
end
section
variable {prog : Program} {w : World} {A : Around} {E : Value → Shared → Prop} {s : Shared}
theorem SegY.quiet {P : End → Shared → Prop} {c : Code} {t : Sem Fin} {fs : List Frame} (x : SegY P prog w A c t fs s) : SegY (fun e s' => e.quiet = true ∧ P e s') prog w A c t fs s := by
 intro Γ p hc hΓ
 obtain ⟨e, s', hr, hq, hp⟩ := x Γ p hc hΓ
 exact ⟨e, s', hr, hq, hq, hp⟩
theorem pyNext_sx {a : Addr} {g : Nat} {gs : GenState} {c₀ : Code} {t₀ : Sem Fin} {fs₀ : List Frame} {Q : Option Value → Shared → Prop} {P : End → Shared → Prop} (hh : A.handled = none) (hl : s.heap.NoLimit) (hroom : A.depth < recursionLimit)
 (hg : s.heap.IsGen a g) (hgs : s.gens[g]? = some gs)
 (hst : (gs = .fresh c₀ ∧ t₀ = denote table c₀ ∧ fs₀ = []) ∨ ∃ k₀ l₀ p₀ cl, gs = .suspended k₀ l₀ c₀ p₀ fs₀ cl ∧ t₀ = k₀ (.send .none))
 (x : SegY P prog w A.in1 c₀ t₀ fs₀ (s.setGen g .running))
 (hY : ∀ v gd l k c p fs s₁, P (.susp v gd l k c p fs) s₁ → (End.susp v gd l k c p fs).quiet = true → Q (some v) (s₁.setGen g (End.genState (.susp v gd l k c p fs))))
 (hR : ∀ r s₁, P (.ret r) s₁ → r = .ok (.ret .none) ∧ ∀ h', (∀ b o, s₁.heap.get? b = some o → h'.get? b = some o) → Q none { s₁.setGen g .finished with heap := h' }) :
 wpAny (model prog w) A (pyNext (.ref a)) Q E s := by
 unfold pyNext
 refine wpAny_bind (wpAny_attempt (wpAny_callSpecial?_slot (name := ofString "__next__") hg.typeIs slot_gen_next
  (wpAny_call_entry slot_gen_next hg.typeIs entry_gen_next ?_ (args_gen_next _))))
 show wpAny _ _ (Builtin.Generator.genWake (.ref a) (.send .none)) _ _ s
 unfold Builtin.Generator.genWake
 refine wpAny_bind (wpAny_holding (wpAny_genNumber hg (wpAny_bind (wpAny_genState hgs ?_))))
 have key : ∀ (Q' : PySem.Fin → Shared → Prop) (E' : Value → Shared → Prop) (k : GenResult → Sem PySem.Fin),
  (∀ e s₁, e.quiet = true ∧ P e s₁ → wpAny (model prog w) A.in1 (k e.result) Q' E' (s₁.setGen g e.genState)) → wpAny (model prog w) A.in1 (.resume g (.send .none) [] k) Q' E' s := by
  intro Q' E' k hk Γ p hΓ
  refine X.wake_any _ prog w hgs ?_ (fun Γ => Γ.In A.in1) (fun _ h => h) (X.SegX.mono x.quiet fun e s₁ hp Γ p hC => hk e s₁ hp Γ p hC) Γ p hΓ
  rcases hst with ⟨a, b, c⟩ | h
  · exact .inl ⟨a, rfl, b, c⟩
  · exact .inr h
 have go : wpAny (model prog w) A.in1 roomToWake (fun _ s' => s' = s) (fun _ _ => False) s := wpAny_roomToWake hl hroom rfl
 rcases hst with ⟨rfl, b, c⟩ | ⟨k₀, l₀, p₀, cl, rfl, b⟩
 all_goals
  refine wpAny_bind (wpAny_roomToWake hl hroom ?_)
  show wpAny _ _ (.resume g (.send .none) [] _) _ _ s
  refine key _ _ _ (fun e s₁ hp => ?_)
  cases e with
  | susp v gd l k c p fs => exact wpAny_pure ⟨v, rfl, wpAny_pure (hY v gd l k c p fs s₁ hp.2 hp.1)⟩
  | ret r =>
   obtain ⟨rfl, hq⟩ := hR r s₁ hp.2
   show wpAny _ _ (newExc (.type "StopIteration") [] >>= _) _ _ _
   refine wpAny_bind ?_
   simp only [newExc, newTuple]
   refine wpAny_bind (wpAny_newObj_type ?_ (by size_fits))
   refine wpAny_bind (m := firstArgMember _ _) (wpAny_of_eq (a := Value.none) (by first | rfl | (simp only [firstArgMember]; rfl)) ?_)
   refine wpAny_newObj_type ?_ (by size_fits)
   simp only [raiseNew]
   refine wpAny_bind (wpAny_bind (wpAny_handled ?_))
   rw [show A.in1.handled = none from hh]
   refine wpAny_throw ?_
   refine wpAny_bind (wpAny_isInstance (T := "StopIteration") (b := true) ⟨_, Heap.get?_push_size _ rfl, rfl⟩ isSubtype_stop ?_)
   exact wpAny_pure (hq _ fun b o hb => Heap.get?_push_of_some _ (Heap.get?_push_of_some _ hb))
noncomputable abbrev nsBody (p1 p2 p3 p4 p5 p6 p7 p8 p9 p10 : Pos) : List Stmt :=
 [.For (.Name (ofString "namespaces") p1) (.Call (.Name (ofString "_reversed") p2) [.Name (ofString "ns_stack") p3] [] p4)
  [.If (.Name (ofString "namespaces") p5) [.Expr (.YieldFrom (.Name (ofString "namespaces") p6) p7) p8] [] p9] [] p10]
theorem ns_fresh {qual : Str} {scope : Scope} {Lg f st : Addr} {cd : Value} {li : List Lv} {p1 p2 p3 p4 p5 p6 p7 p8 p9 p10 : Pos} {m : Str → Option Value} (hh : A.handled = none) (hk : scope.kind = .function)
 (hl : (envOf qual scope Lg f cd).kindOf (ofString "namespaces") = some .local) (hl2 : (envOf qual scope Lg f cd).kindOf (ofString "_reversed") = some .local) (hl3 : (envOf qual scope Lg f cd).kindOf (ofString "ns_stack") = some .local)
 (hsz : ∀ p ∈ li, (p.2.size : Int) < 2 ^ 63) (hm : s.heap.Ns Lg m) (m2 : m (ofString "_reversed") = some (.type "reversed")) (m3 : m (ofString "ns_stack") = some (.ref st)) (stk : StkH s.heap st li) :
 SegY (EndP Lg st li (nextP prog w A Lg st li (outs li).length) [Lg] (outs li) s) prog w A (.func (nsBody p1 p2 p3 p4 p5 p6 p7 p8 p9 p10) (envOf qual scope Lg f cd)) (denote table (.func (nsBody p1 p2 p3 p4 p5 p6 p7 p8 p9 p10) (envOf qual scope Lg f cd))) [] s := by
 refine sx_func (sx_execs_cons (sx_For ?_))
 refine wpAny_Call_ofName (wpAny_Name (wpAny_loadName_local hk hl2 hm m2 ?_))
 refine PyProof.Rows.callWith_type1 ?_
 refine spliced_more (wpAny_Name (wpAny_loadName_local hk hl3 hm m3 ?_))
 refine spliced_none ?_
 refine call_reversed_list stk.lst ?_
 have hr : (s.heap.push (revObj st (((li.map fun p => Value.ref p.1).toArray.size : Int) - 1))).IsRevIter s.heap.objs.size st ((li.length : Int) - 1) :=
  ⟨_, Heap.get?_push_size _ rfl, rfl, by unfold revObj; simp⟩
 refine wpAny_pyIter_revIter (s := { s with heap := s.heap.push (revObj st (((li.map fun p => Value.ref p.1).toArray.size : Int) - 1)) }) hr (fun p => ?_)
 have e : li.take li.length = li := List.take_length
 have gen : ∀ fs, FsOk prog w fs → SegY (EndP Lg st li (nextP prog w A Lg st li (outs li).length) [Lg] (outs li) s) prog w A (nsLoop p1 p5 p6 p7 p8 p9 s.heap.objs.size (envOf qual scope Lg f cd)) ((model prog w).den (nsLoop p1 p5 p6 p7 p8 p9 s.heap.objs.size (envOf qual scope Lg f cd))) fs
  { s with heap := s.heap.push (revObj st (((li.map fun p => Value.ref p.1).toArray.size : Int) - 1)) } := by
  intro fs ok
  have o := (ns_all (A := A) (st := st) (p1 := p1) (p5 := p5) (p6 := p6) (p7 := p7) (p8 := p8) (p9 := p9) hh hk hl hsz ok (outs li).length li.length (Nat.le_refl _)).1
  unfold OuterS at o
  rw [e] at o
  refine o s _ [Lg] s.heap.objs.size rfl (.head _) (.inr ?_) (stk.push _) ⟨m, hm.push _⟩ hr ((KeepsBut.refl _ s).push _)
  cases q : s.heap.get? s.heap.objs.size with
  | none => rfl
  | some o => exact absurd (Heap.lt_size q) (Nat.lt_irrefl _)
 exact gen _ ⟨rfl, rfl, fun _ _ => rfl, fun P A s c' h => sx_leaf (.ok .next) (sx_end (.ok (.ret .none)) h)⟩
end
structure StkL (st : Addr) (li : List Lv) (news : List Cell) : Prop where
 lst : ∃ n, (st, listOf (li.map fun p => Value.ref p.1).toArray n) ∈ news
 lv : ∀ p ∈ li, ∃ n, (p.1, listOf p.2 n) ∈ news
theorem StkL.mono {st : Addr} {li : List Lv} {news news' : List Cell} (x : StkL st li news) (h : ∀ p ∈ news, p ∈ news') : StkL st li news' :=
 ⟨let ⟨n, a⟩ := x.lst; ⟨n, h _ a⟩, fun p hp => let ⟨n, a⟩ := x.lv p hp; ⟨n, h _ a⟩⟩
theorem listOf_isList {h : Heap} {a : Addr} {its : Array Value} {n : Nat} (e : h.get? a = some (listOf its n)) : h.IsList a its := ⟨_, e, rfl, n, rfl⟩
section
variable {prog : Program} {w : World} {A : Around} {E : Value → Shared → Prop} {s s' : Shared} {B : Heap} {os : OsState} {G : Array GenState} {L : Addr} {m : Str → Option Value} {news : List Cell} {Lg st ga : Addr} {li : List Lv} {g : Nat}
theorem StkL.heap (x : StkL st li news) (S : St B os G L m news s) : StkH s.heap st li :=
 ⟨let ⟨_, a⟩ := x.lst; listOf_isList (S.get a), fun p hp => let ⟨_, a⟩ := x.lv p hp; listOf_isList (S.get a)⟩
inductive GenAt (prog : Program) (w : World) (A : Around) (Lg st : Addr) (li : List Lv) (g : Nat) : List Value → List Cell → Array GenState → Prop
 | fresh {oLg : Obj} {m : Str → Option Value} {qual : Str} {scope : Scope} {f : Addr} {cd : Value} {p1 p2 p3 p4 p5 p6 p7 p8 p9 p10 : Pos} {G : Array GenState} :
  NsO oLg m → m (ofString "_reversed") = some (.type "reversed") → m (ofString "ns_stack") = some (.ref st) → scope.kind = .function →
  (envOf qual scope Lg f cd).kindOf (ofString "namespaces") = some .local → (envOf qual scope Lg f cd).kindOf (ofString "_reversed") = some .local → (envOf qual scope Lg f cd).kindOf (ofString "ns_stack") = some .local →
  G[g]? = some (.fresh (.func (nsBody p1 p2 p3 p4 p5 p6 p7 p8 p9 p10) (envOf qual scope Lg f cd))) → GenAt prog w A Lg st li g (outs li) [(Lg, oLg)] G
 | mid {oLg orv oit : Obj} {m : Str → Option Value} {rv it la : Addr} {its : Array Value} {j i : Nat} {gs : GenState} {G : Array GenState} {n : Nat} :
  NsO oLg m → orv.cls = .type "list_reverseiterator" → orv.data = .fields #[.ref st, rawInt ((i : Int) - 1)] → oit.cls = .type "list_iterator" → oit.data = .fields #[.ref la, .int j 0] → (la, its) ∈ li → i ≤ li.length →
  G[g]? = some gs → GoesNs prog w A Lg st li n rv it la its j i gs → GenAt prog w A Lg st li g (its.toList.drop j ++ outs (li.take i)) [(Lg, oLg), (rv, orv), (it, oit)] G
theorem set_set {α : Type} (a : Array α) (g : Nat) (x y : α) : (a.setIfInBounds g x).setIfInBounds g y = a.setIfInBounds g y := by
 apply Array.ext'
 simp
theorem AllBare.set {G : Array GenState} (h : AllBare G) (g : Nat) {x : GenState} (hx : x.bare = true) : AllBare (G.setIfInBounds g x) := by
 intro y hy
 rcases Array.mem_or_eq_of_mem_setIfInBounds hy with h' | rfl
 · exact h y h'
 · exact hx
theorem St.woken {gc : List Cell} {s₁ : Shared} {rv it la : Addr} {its : Array Value} {j i : Nat} {gs' : GenState} {oLg : Obj} (S : St B os G L m (gc ++ news) s) {fp : List Addr} (hfp : ∀ a ∈ fp, ∃ o, (a, o) ∈ gc) (hLg : (Lg, oLg) ∈ gc)
 (k : KeepsBut fp (s.setGen g .running) s₁) (S' : SuspH s₁.heap Lg st li rv it la its j i) (hrv : rv ∈ fp ∨ s.heap.get? rv = none) (hit : it ∈ fp ∨ s.heap.get? it = none) (hb : gs'.bare = true) :
 ∃ oLg' orv oit m', NsO oLg' m' ∧ orv.cls = .type "list_reverseiterator" ∧ orv.data = .fields #[.ref st, rawInt ((i : Int) - 1)] ∧ oit.cls = .type "list_iterator" ∧ oit.data = .fields #[.ref la, .int j 0] ∧
  St B os (G.setIfInBounds g gs') L m ([(Lg, oLg'), (rv, orv), (it, oit)] ++ news) (s₁.setGen g gs') := by
 obtain ⟨m', hm'⟩ := S'.ns
 obtain ⟨oLg', eL, nL⟩ := ns_nsO hm'
 obtain ⟨orv, erv, crv, drv⟩ := S'.rv
 obtain ⟨oit, eit, cit, dit⟩ := S'.it
 refine ⟨oLg', orv, oit, m', nL, crv, drv, cit, dit, ?_⟩
 have nd := S.nd
 rw [List.map_append, List.nodup_append] at nd
 have priv : ∀ a, (a ∈ fp ∨ s.heap.get? a = none) → a ≠ L ∧ B.get? a = none ∧ a ∉ news.map (·.1) := by
  intro a ha
  rcases ha with ha | ha
  · obtain ⟨o, ho⟩ := hfp a ha
    have z := S.N _ (List.mem_append.mpr (.inl ho))
    exact ⟨z.2.1, z.2.2, fun hm => nd.2.2 _ (List.mem_map_of_mem (f := Prod.fst) ho) _ hm rfl⟩
  · refine ⟨fun e => ?_, ?_, fun hm => ?_⟩
    · obtain ⟨oL, e', _⟩ := ns_nsO S.F.ns
      rw [e, e'] at ha; cases ha
    · cases q : B.get? a with
      | none => rfl
      | some o => rw [S.F.keep _ _ q] at ha; cases ha
    · obtain ⟨p, hp, rfl⟩ := List.mem_map.mp hm
      rw [(S.N p (List.mem_append.mpr (.inr hp))).1] at ha; cases ha
 have hLp : Lg ≠ L ∧ B.get? Lg = none ∧ Lg ∉ news.map (·.1) := by
  have z := S.N _ (List.mem_append.mpr (.inl hLg))
  exact ⟨z.2.1, z.2.2, fun hm => nd.2.2 _ (List.mem_map_of_mem (f := Prod.fst) hLg) _ hm rfl⟩
 have old : ∀ b o, s.heap.get? b = some o → b ∉ fp → s₁.heap.get? b = some o := fun b o e hb => k.heap b o hb e
 have nfp : ∀ p ∈ news, p.1 ∉ fp := fun p hp hq => (priv _ (.inl hq)).2.2 (List.mem_map_of_mem (f := Prod.fst) hp)
 have pr := priv rv hrv
 have pi := priv it hit
 have d1 : Lg ≠ rv := ne_of_data eL erv (by obtain ⟨_, _, q, _⟩ := nL; rw [q, drv]; intro z; cases z)
 have d2 : Lg ≠ it := ne_of_data eL eit (by obtain ⟨_, _, q, _⟩ := nL; rw [q, dit]; intro z; cases z)
 have d3 : rv ≠ it := ne_of_cls erv eit (by rw [crv, cit]; decide)
 refine ⟨⟨?_, fun b o e => old b o (S.F.keep b o e) (fun hb => by rw [(priv b (.inl hb)).2.1] at e; cases e), S.F.above⟩, ?_, ?_, ?_, Mine.AllBare.set S.bare g hb, k.os.trans S.os⟩
 · obtain ⟨oL, e, hns⟩ := ns_nsO S.F.ns
   exact hns.ns (old _ _ e fun hb => (priv L (.inl hb)).1 rfl)
 · intro p hp
   rcases List.mem_append.mp hp with hp | hp
   · simp only [List.mem_cons, List.not_mem_nil, or_false] at hp
     rcases hp with rfl | rfl | rfl
     · exact ⟨eL, hLp.1, hLp.2.1⟩
     · exact ⟨erv, pr.1, pr.2.1⟩
     · exact ⟨eit, pi.1, pi.2.1⟩
   · have z := S.N p (List.mem_append.mpr (.inr hp))
     exact ⟨old _ _ z.1 (nfp p hp), z.2⟩
 · rw [List.map_append, List.nodup_append]
   refine ⟨?_, nd.2.1, ?_⟩
   · simp only [List.map_cons, List.map_nil, List.nodup_cons, List.mem_cons, List.not_mem_nil, or_false, not_or, not_false_eq_true, List.nodup_nil, and_true]
     exact ⟨⟨d1, d2⟩, d3⟩
   · intro a ha b hb e
     subst e
     simp only [List.map_cons, List.map_nil, List.mem_cons, List.not_mem_nil, or_false] at ha
     rcases ha with rfl | rfl | rfl
     · exact hLp.2.2 hb
     · exact pr.2.2 hb
     · exact pi.2.2 hb
 · show (s₁.gens.setIfInBounds g gs') = _
   rw [k.gens]
   show ((s.gens.setIfInBounds g .running).setIfInBounds g gs') = _
   rw [set_set, S.gens]
theorem St.wokenEnd {gc : List Cell} {s₁ : Shared} {h' : Heap} (S : St B os G L m (gc ++ news) s) {fp : List Addr} (hfp : ∀ a ∈ fp, ∃ o, (a, o) ∈ gc) (k : KeepsBut fp (s.setGen g .running) s₁) (hk : ∀ b o, s₁.heap.get? b = some o → h'.get? b = some o) :
 St B os (G.setIfInBounds g .finished) L m news { s₁.setGen g .finished with heap := h' } := by
 have nd := S.nd
 rw [List.map_append, List.nodup_append] at nd
 have priv : ∀ a, a ∈ fp → a ≠ L ∧ B.get? a = none ∧ a ∉ news.map (·.1) := by
  intro a ha
  obtain ⟨o, ho⟩ := hfp a ha
  have z := S.N _ (List.mem_append.mpr (.inl ho))
  exact ⟨z.2.1, z.2.2, fun hm => nd.2.2 _ (List.mem_map_of_mem (f := Prod.fst) ho) _ hm rfl⟩
 have old : ∀ b o, s.heap.get? b = some o → b ∉ fp → h'.get? b = some o := fun b o e hb => hk _ _ (k.heap b o hb e)
 refine ⟨⟨?_, fun b o e => old b o (S.F.keep b o e) (fun hb => by rw [(priv b hb).2.1] at e; cases e), S.F.above⟩, ?_, nd.2.1, ?_, Mine.AllBare.set S.bare g rfl, k.os.trans S.os⟩
 · obtain ⟨oL, e, hns⟩ := ns_nsO S.F.ns
   exact hns.ns (old _ _ e fun hb => (priv L hb).1 rfl)
 · intro p hp
   have z := S.N p (List.mem_append.mpr (.inr hp))
   exact ⟨old _ _ z.1 fun hq => (priv _ hq).2.2 (List.mem_map_of_mem (f := Prod.fst) hp), z.2⟩
 · show (s₁.gens.setIfInBounds g .finished) = _
   rw [k.gens]
   show ((s.gens.setIfInBounds g .running).setIfInBounds g .finished) = _
   rw [set_set, S.gens]
theorem next_ns {Q : Option Value → Shared → Prop} {xs : List Value} {gc : List Cell} {oga : Obj} {nm qn : Value} (hh : A.handled = none) (hlim : B.NoLimit) (hroom : A.depth < recursionLimit) (S : St B os G L m (gc ++ news) s)
 (hga : (ga, oga) ∈ news) (hc : oga.cls = .type "generator") (hd : oga.data = .fields #[.int g 0, nm, qn]) (hsl : oga.slots = #[]) (stk : StkL st li news) (hsz : ∀ p ∈ li, (p.2.size : Int) < 2 ^ 63) (GA : GenAt prog w A.in1 Lg st li g xs gc G)
 (k0 : xs = [] → ∀ G' s', St B os G' L m news s' → Q none s')
 (k1 : ∀ v xs' gc' G' s', xs = v :: xs' → GenAt prog w A.in1 Lg st li g xs' gc' G' → St B os G' L m (gc' ++ news) s' → Q (some v) s') :
 wpAny (model prog w) A (pyNext (.ref ga)) Q E s := by
 have hgen : s.heap.IsGen ga g := ⟨oga, nm, qn, S.get (List.mem_append.mpr (.inr hga)), hc, hd, hsl⟩
 have stk' : StkH s.heap st li := StkL.heap (stk.mono fun p hp => List.mem_append.mpr (.inr hp)) S
 have hl := hlim.keeps S.F.keep
 have inb : ∀ {gs x : GenState}, G[g]? = some gs → (G.setIfInBounds g x)[g]? = some x := by
  intro gs x h
  have := (Array.getElem?_eq_some_iff.mp h).1
  simp [this]
 cases GA with
 | @fresh oLg mL qual scope f cd p1 p2 p3 p4 p5 p6 p7 p8 p9 p10 _ hns m2 m3 hk l1 l2 l3 hg =>
  have hns' : (s.setGen g .running).heap.Ns Lg mL := hns.ns (S.get (.head _))
  have x := ns_fresh (prog := prog) (w := w) (A := A.in1) (s := s.setGen g .running) (p1 := p1) (p2 := p2) (p3 := p3) (p4 := p4) (p5 := p5) (p6 := p6) (p7 := p7) (p8 := p8) (p9 := p9) (p10 := p10) hh hk l1 l2 l3 hsz hns' m2 m3 stk'
  refine pyNext_sx hh hl hroom hgen (by rw [S.gens]; exact hg) (.inl ⟨rfl, rfl, rfl⟩) x ?_ ?_
  · intro v gd l k c p fs s₁ hp hq
    obtain ⟨rv, it, la, its, j, i, hxs, S', kb, hrv, hit, hn⟩ := hp
    have hfp : ∀ a ∈ [Lg], ∃ o, (a, o) ∈ [(Lg, oLg)] := fun a ha => ⟨oLg, by rw [List.mem_singleton.mp ha]; exact .head _⟩
    obtain ⟨oLg', orv, oit, m', n1, n2, n3, n4, n5, S₂⟩ := S.woken hfp (.head _) kb S' hrv hit (End.bare_of_quiet hq)
    refine k1 v _ _ _ _ hxs (.mid (n := (outs li).length - 1) n1 n2 n3 n4 n5 S'.la S'.hi (inb hg) ?_) S₂
    cases e : (outs li).length with
    | zero => rw [e] at hn; exact hn.elim
    | succ n => rw [e] at hn; exact hn
  · intro r s₁ hp
    obtain ⟨hxs, hr, kb⟩ := hp
    have hfp : ∀ a ∈ [Lg], ∃ o, (a, o) ∈ [(Lg, oLg)] := fun a ha => ⟨oLg, by rw [List.mem_singleton.mp ha]; exact .head _⟩
    exact ⟨hr, fun h' hk => k0 hxs _ _ (S.wokenEnd hfp kb hk)⟩
 | @mid oLg orv oit mL rv it la its j i gs _ n hns c1 d1 c2 d2 hla hi hg hgo =>
  rw [GoesNs_eq] at hgo
  obtain ⟨k, l, c, p, fs, cl, rfl, hs⟩ := hgo
  have e1 : s.heap.get? Lg = some oLg := S.get (.head _)
  have e2 : s.heap.get? rv = some orv := S.get (.tail _ (.head _))
  have e3 : s.heap.get? it = some oit := S.get (.tail _ (.tail _ (.head _)))
  have x := hs (s.setGen g .running) ⟨stk', ⟨mL, hns.ns e1⟩, ⟨orv, e2, c1, d1⟩, ⟨oit, e3, c2, d2⟩, hla, hi⟩
  have hfp : ∀ a ∈ [Lg, rv, it], ∃ o, (a, o) ∈ [(Lg, oLg), (rv, orv), (it, oit)] := by
   intro a ha
   simp only [List.mem_cons, List.not_mem_nil, or_false] at ha
   rcases ha with rfl | rfl | rfl
   · exact ⟨_, .head _⟩
   · exact ⟨_, .tail _ (.head _)⟩
   · exact ⟨_, .tail _ (.tail _ (.head _))⟩
  refine pyNext_sx hh hl hroom hgen (by rw [S.gens]; exact hg) (.inr ⟨k, l, p, cl, rfl, rfl⟩) x ?_ ?_
  · intro v gd l k c p fs s₁ hp hq
    obtain ⟨rv', it', la', its', j', i', hxs, S', kb, hrv, hit, hn⟩ := hp
    obtain ⟨oLg', orv, oit, m', n1, n2, n3, n4, n5, S₂⟩ := S.woken hfp (.head _) kb S' hrv hit (End.bare_of_quiet hq)
    refine k1 v _ _ _ _ hxs (.mid (n := n - 1) n1 n2 n3 n4 n5 S'.la S'.hi (inb hg) ?_) S₂
    cases n with
    | zero => exact hn.elim
    | succ n => exact hn
  · intro r s₁ hp
    obtain ⟨hxs, hr, kb⟩ := hp
    exact ⟨hr, fun h' hk => k0 hxs _ _ (S.wokenEnd hfp kb hk)⟩
end
noncomputable def NsZ (k : Nat) (o : Obj) (m : Str → Option Value) : Prop := ∃ es ep, o.data = .dict es ep ∧ StrKeys es ∧ (∀ n, nsFind es n = m n) ∧ es.size ≤ k
theorem NsZ.o {k : Nat} {o : Obj} {m : Str → Option Value} (x : NsZ k o m) : NsO o m := let ⟨es, ep, a, b, c, _⟩ := x; ⟨es, ep, a, b, c⟩
theorem NsZ.le {k k' : Nat} {o : Obj} {m : Str → Option Value} (x : NsZ k o m) (h : k ≤ k') : NsZ k' o m := let ⟨es, ep, a, b, c, d⟩ := x; ⟨es, ep, a, b, c, Nat.le_trans d h⟩
theorem isStr_key (name y : Str) (t : Tok) : (Value.str name t).isStr y = decide (y = name) := by
 show (name == y) = decide (y = name)
 by_cases h : y = name
 · subst h; simp
 · have : ¬ name = y := fun e => h e.symm
   simp [h, this]
theorem NsZ.put {k : Nat} {o : Obj} {m : Str → Option Value} (x : NsZ k o m) (name : Str) (hash : Int) (t : Tok) (v : Value) :
 NsZ (if (m name).isSome then k else k + 1) (Obj.putName name hash (.str name t) v o) (updM m name v) := by
 obtain ⟨es, ep, hd, hk, hm, hz⟩ := x
 obtain ⟨c, d, dt, sl⟩ := o
 dsimp only at hd
 subst hd
 cases hi : es.findIdx? (·.key.isStr name) with
 | some i =>
  have hsome : (m name).isSome = true := by
   rw [← hm name]
   unfold nsFind findBy
   cases q : es.find? (fun e => e.key.isStr name) with
   | some e => rfl
   | none =>
    have z : es.findIdx? (·.key.isStr name) = none := by
     rw [Array.findIdx?_eq_none_iff]
     intro e he
     have := Array.find?_eq_none.mp q e he
     simpa using this
    rw [z] at hi; cases hi
  rw [if_pos hsome]
  refine ⟨es.modify i fun e => { e with val := v }, ep, by simp only [Obj.putName_eq, Obj.putNameByArray, hi], hk.modify _ _, fun y => ?_, by simpa using hz⟩
  show _ = if y = name then some v else m y
  rw [← hm]; exact findBy_modify (fun n v => v.isStr n) Value.isStr_inj es name y v i hi
 | none =>
  have hnone : (m name).isSome = false := by
   rw [← hm name]
   unfold nsFind findBy
   have q : es.find? (fun e => e.key.isStr name) = none := by
    rw [Array.find?_eq_none]
    intro e he
    simpa using (Array.findIdx?_eq_none_iff.mp hi) e he
   rw [q]; rfl
  rw [hnone]
  refine ⟨es.push ⟨hash, .str name t, v⟩, ep + 1, by simp only [Obj.putName_eq, Obj.putNameByArray, hi], hk.push _ _ _ _, fun y => ?_, by simp; lia⟩
  show _ = if y = name then some v else m y
  rw [← hm]
  exact findBy_push (fun n v => v.isStr n) es name y _ _ v (fun z => isStr_key name z t) hi
section
variable {prog : Program} {w : World} {A : Around} {E : Value → Shared → Prop} {s s' : Shared} {B : Heap} {os : OsState} {G : Array GenState} {L : Addr} {m : Str → Option Value} {news : List Cell} {K : Frag}
theorem setS {x C dx : Addr} {od : Obj} {sl : Array (Option Value)} {am : Str → Option Value} {name : Str} {v : Value} {k : Nat} {news' : Obj → List Cell} {Q : Unit → Shared → Prop} (S : St B os G L m news s) (X : K.In B)
 (hx : (x, (⟨.ref C, some dx, .plain, sl⟩ : Obj)) ∈ news) (U : ∀ od', Up dx od od' news (news' od')) (ho : NsZ k od am) (hz : k < 1000)
 (hs : findIn K (.ref C) "__setattr__" = some (some (.builtin "object.__setattr__"))) (hp : plainOver K C = true) (ht : takerIn K C name = some none) (hh : hasDictIn K C = true)
 (h : ∀ od' s', NsZ (if (am name).isSome then k else k + 1) od' (updM am name v) → St B os G L m (news' od') s' → Q () s') : wpAny (model prog w) A (setAttr (.ref x) name v) Q E s := by
 have hz' := ho.put name (PyData.keyHash w.params name) (s.toks + 1) v
 obtain ⟨es', ep', hd', _, _, hle⟩ := id hz'
 have U' := U (Obj.putName name (PyData.keyHash w.params name) (.str name (s.toks + 1)) v od)
 obtain ⟨pre, post, e1, e2, a, b⟩ := (U'.upd S.nd).split
 have hmem : (dx, od) ∈ news := U'.mem
 have N := S.N
 rw [e1] at N
 refine set_plain (S.X X) (InstAt.of_news S.N hx hmem) hs ?_
 refine osa_dict (s := { s with toks := s.toks + 1 }) (es := es'.toList) (n := ep') S.F N (S.X X) (InstAt.of_news S.N hx hmem) rfl hp ht hh (by rw [ho.o.look]; rfl) a b rfl (by rw [hd']) ?_ (fun h' F' N' => ?_)
 · have : es'.toList.length = es'.size := by simp
   rw [this]
   split at hle <;> lia
 · refine h _ _ hz' ?_
   rw [e2]
   exact S.to (s' := { s with heap := h', toks := s.toks + 1 + 1 }) F' N' (by rw [← e2]; exact U'.keys)
theorem call_gen {R : Result → Shared → Prop} {name qual : Str} {params : Arguments} {body : List Stmt} {scope : Scope} {dV kV doc pm cdv ct oc : Value} {an od : Option Addr} {osl : Array (Option Value)} {f : Addr} {args : Args} {binds : List (Str × Value)}
 (S : St B os G L m news s) (X : K.In B) (hlim : B.NoLimit)
 (ho : K.lookup f = some ⟨oc, od, .func (fnOf name qual params body scope dV kV doc pm an cdv ct), osl⟩) (hcd : codeIn K cdv qual = true) (hroom : A.depth < recursionLimit)
 (hbind : BindsTo s (fnOf name qual params body scope dV kV doc pm an cdv ct) args binds) (hloc : ∀ y ∈ binds, scope.names.lookup y.1 = some .local)
 (h : ∀ Lg oLg ga t1 t2 s', NsO oLg (bindM binds) → St B os (G.push (.fresh (.func body (envOf qual scope Lg f cdv)))) L m ((Lg, oLg) :: (ga, { cls := .type "generator", data := .fields #[.int G.size 0, .str name t1, .str qual t2] }) :: news) s' →
  R (.ok (.ret (.ref ga))) s')
 (hco : scope.isCoroutine = false := by rfl) (hgen : scope.isGenerator = true := by rfl) (hk : scope.kind = .function := by rfl)
 (hcell : ∀ x ∈ scope.names, x.2 ≠ .cell := by decide) : codeAny (model prog w) A (.call (.ref f) args) R s := by
 refine codeAny_call_generator (fd := fnOf name qual params body scope dV kV doc pm an cdv ct) (body := body) hroom (S.X X _ _ ho) rfl hco hgen rfl (codeRec_of (S.X X) hcd) ?_
 refine hbind _ _ _ _ ?_
 refine wpAny_newFunctionEnv hcell hloc (fun h₁ hns hsb => ?_) hk
 have hk₁ : ∀ b o, s.heap.get? b = some o → h₁.get? b = some o := fun b o e => (hsb.2 b (Nat.ne_of_lt (Heap.lt_size e))).trans (Heap.get?_push_of_some _ e)
 refine ⟨(hlim.keeps S.F.keep).keeps hk₁, ?_⟩
 obtain ⟨oLg, eL, hL⟩ := ns_nsO hns
 have hsz : h₁.objs.size = s.heap.objs.size + 1 := by rw [hsb.1, Heap.size_push]
 have hg : s.gens.size = G.size := by rw [S.gens]
 have bn : ∀ a, s.heap.objs.size ≤ a → B.get? a = none := fun a ha => base_none (Nat.le_trans (Nat.le_trans S.F.above (Nat.le_of_lt S.F.ns.lt)) ha)
 refine h s.heap.objs.size oLg h₁.objs.size (s.toks + binds.length) (s.toks + binds.length + 1) _ hL ?_
 refine ⟨⟨?_, fun b o e => Heap.get?_push_of_some _ (hk₁ _ _ (S.F.keep b o e)), S.F.above⟩, ?_, ?_, ?_, ?_, S.os⟩
 · exact (S.F.ns.keeps hk₁).push _
 · intro p hp
   rcases List.mem_cons.mp hp with rfl | hp
   · exact ⟨Heap.get?_push_of_some _ eL, Nat.ne_of_gt S.F.ns.lt, bn _ (Nat.le_refl _)⟩
   · rcases List.mem_cons.mp hp with rfl | hp
     · refine ⟨?_, by rw [hsz]; exact Nat.ne_of_gt (Nat.lt_succ_of_lt S.F.ns.lt), bn _ (by rw [hsz]; exact Nat.le_succ _)⟩
       rw [← hg]
       exact Heap.get?_push_size _ rfl
     · exact ⟨Heap.get?_push_of_some _ (hk₁ _ _ (S.N p hp).1), (S.N p hp).2⟩
 · rw [List.map_cons, List.map_cons, List.nodup_cons, List.nodup_cons]
   refine ⟨fun hm => ?_, fun hm => ?_, S.nd⟩
   · rcases List.mem_cons.mp hm with e | hm
     · exact absurd (show s.heap.objs.size = h₁.objs.size from e) (by rw [hsz]; exact Nat.ne_of_lt (Nat.lt_succ_self _))
     · obtain ⟨p, hp, e⟩ := List.mem_map.mp hm
       have := S.lt hp
       rw [show p.1 = s.heap.objs.size from e] at this
       exact absurd this (Nat.lt_irrefl _)
   · obtain ⟨p, hp, e⟩ := List.mem_map.mp hm
     have := S.lt hp
     rw [show p.1 = h₁.objs.size from e, hsz] at this
     exact absurd this (Nat.not_lt.mpr (Nat.le_succ _))
 · show s.gens.push _ = _
   rw [S.gens]; rfl
 · exact AllBare.push S.bare rfl
end
noncomputable abbrev tupO (its : Array Value) : Obj := { cls := .type "tuple", data := .seq its }
noncomputable def SetO (prog : Program) (w : World) (o : Obj) (T : Str → Bool) (n : Nat) : Prop :=
 ∃ es ep t, o.ExactSet ∧ o.data = .set es ep t ∧ ElemsOf (strKind prog w) es.toList ∧ (∀ k, T k = true ↔ ∃ e ∈ es.toList, (strKind prog w).is k e.2 = true) ∧ es.size < scanBound ∧ t.fits es.size = true ∧ es.size = n
theorem SetO.heap {prog : Program} {w : World} {h : Heap} {a : Addr} {o : Obj} {T : Str → Bool} {n : Nat} (x : SetO prog w o T n) (e : h.get? a = some o) : h.SetOf (strKind prog w) a T n :=
 x.elim fun es h => h.elim fun ep h => h.elim fun t h => ⟨o, es, ep, t, e, h⟩
theorem setOf_o {prog : Program} {w : World} {h : Heap} {a : Addr} {T : Str → Bool} {n : Nat} (x : h.SetOf (strKind prog w) a T n) : ∃ o, h.get? a = some o ∧ SetO prog w o T n :=
 x.elim fun o h => h.elim fun es h => h.elim fun ep h => h.elim fun t h => ⟨o, h.1, es, ep, t, h.2⟩
section
variable {prog : Program} {w : World} {A : Around} {E : Value → Shared → Prop} {s s' : Shared} {B : Heap} {os : OsState} {G : Array GenState} {L : Addr} {m : Str → Option Value} {news news' : List Cell} {K : Frag}
theorem St.ext (S : St B os G L m news s) {h' : Heap} {t : Nat} (hx : ∀ b o, s.heap.get? b = some o → h'.get? b = some o) : St B os G L m news { s with heap := h', toks := t } :=
 ⟨⟨S.F.ns.keeps hx, fun b o e => hx _ _ (S.F.keep b o e), S.F.above⟩, fun p hp => ⟨hx _ _ (S.N p hp).1, (S.N p hp).2⟩, S.nd, S.gens, S.bare, S.os⟩
theorem St.extB (S : St B os G L m news s) {h' : Heap} {t : Nat} (hx : Heap.ExtBut s.heap.objs.size s.heap h') : St B os G L m news { s with heap := h', toks := t } :=
 S.ext fun b o e => hx b o (Nat.ne_of_lt (Heap.lt_size e)) e
theorem St.tk (S : St B os G L m news s) {t : Nat} : St B os G L m news { s with toks := t } := S.ext fun _ _ e => e
theorem St.same (S : St B os G L m news s) {a : Addr} {o o' : Obj} (U : Up a o o' news news') {h' : Heap} {t : Nat} (hs : Heap.SameBut a s.heap h') (e : h'.get? a = some o') : St B os G L m news' { s with heap := h', toks := t } := by
 obtain ⟨pre, post, e1, e2, c, d⟩ := (U.upd S.nd).split
 have z := S.N _ U.mem
 have N := S.N
 rw [e1] at N
 refine S.to (s' := { s with heap := h', toks := t }) (S.F.change hs z.2.1 z.2.2) ?_ U.keys
 rw [e2]
 exact news_set N c d hs e
theorem tupS {vs : List Value} {Q : Value → Shared → Prop} (S : St B os G L m news s) (h : ∀ a s', St B os G L m ((a, tupO vs.toArray) :: news) s' → Q (.ref a) s') (hsz : vs.length ≤ sizeLine := by size_fits) : wpAny (model prog w) A (newTuple vs) Q E s :=
 newTuple_N S.F S.N (fun h' F' N' => h _ _ (S.cons (s' := { s with heap := h' }) F' N' fun _ hp => S.lt hp)) hsz
theorem listS {vs : List Value} {Q : Value → Shared → Prop} (S : St B os G L m news s) (h : ∀ a s', St B os G L m ((a, listOf vs.toArray 0) :: news) s' → Q (.ref a) s') (hsz : vs.length ≤ sizeLine := by size_fits) : wpAny (model prog w) A (newList vs) Q E s :=
 newList_N S.F S.N (fun h' F' N' => h _ _ (S.cons (s' := { s with heap := h' }) F' N' fun _ hp => S.lt hp)) hsz
theorem tup_is {h : Heap} {a : Addr} {its : Array Value} (e : h.get? a = some (tupO its)) : h.IsTuple a its := ⟨_, e, rfl, 0, rfl⟩
theorem unpack2S {t : Addr} {v₁ v₂ : Value} {x₁ x₂ : Str} {p₁ p₂ pos : Pos} {k : Nat} {name : Str} {scope : Scope} {f : Addr} {cd : Value} {Q : Unit → Shared → Prop} (S : St B os G L m news s) (hh : A.handled = none) (ht : (t, tupO #[v₁, v₂]) ∈ news)
 (h : ∀ s', St B os G L (updM (updM m x₁ v₁) x₂ v₂) news s' → Q () s')
 (hk : scope.kind = .function := by rfl) (hl₁ : (envOf name scope L f cd).kindOf x₁ = some .local := by rfl) (hl₂ : (envOf name scope L f cd).kindOf x₂ = some .local := by rfl) :
 wpAny (model prog w) A (assign (.Tuple [.Name x₁ p₁, .Name x₂ p₂] k pos) (envOf name scope L f cd) (.ref t)) Q E s := by
 refine wpAny_assign_Tuple hh (tup_is (S.get ht)) rfl rfl (fun h' hx => ?_)
 have S₁ := S.extB (t := s.toks) hx
 show wpAny _ _ (holding [v₂] (standAt p₁ >>= fun _ => bindName _ x₁ v₁) >>= fun _ => holding [] (standAt p₂ >>= fun _ => bindName _ x₂ v₂) >>= fun _ => pure ()) _ _ _
 refine wpAny_bind (wpAny_holding (wpAny_bind (wpAny_standAt (wpAny_bindName (stS S₁ (fun s₂ S₂ => ?_) hk hl₁)))))
 exact wpAny_bind (wpAny_holding (wpAny_bind (wpAny_standAt (wpAny_bindName (stS S₂ (fun s₃ S₃ => wpAny_pure (h _ S₃)) hk hl₂)))))
theorem setNewS {Q : Value → Shared → Prop} (S : St B os G L m news s) (h : ∀ a o s', SetO prog w o (fun _ => false) 0 → St B os G L m ((a, o) :: news) s' → Q (.ref a) s') : wpAny (model prog w) A (call (.type "set") []) Q E s :=
 newSet_N S.F S.N fun h' led F' N' => h _ _ _ ⟨#[], 0, _, ⟨rfl, rfl, rfl⟩, rfl, (fun e he => by simp at he), (fun k => by simp), (by decide), rfl, rfl⟩ (S.cons (s' := { s with heap := h' }) F' N' fun _ hp => S.lt hp)
theorem isStrOf_str (k : Str) (t : Tok) (prog : Program) (w : World) : (strKind prog w).is k (.str k t) = true := by
 show (k == k) = true
 simp
theorem notInS {a : Addr} {o : Obj} {T : Str → Bool} {n : Nat} {k : Str} {t : Tok} {Q : Value → Shared → Prop} (S : St B os G L m news s) (ha : (a, o) ∈ news) (ho : SetO prog w o T n) (h : ∀ s', St B os G L m news s' → Q (.bool (!T k)) s') :
 wpAny (model prog w) A (compareOp .NotIn (.str k t) (.ref a)) Q E s := wpAny_notInSet_of (isStrOf_str k t prog w) rfl (ho.heap (S.get ha)) (h _ S.tk)
theorem addS {a : Addr} {o : Obj} {T : Str → Bool} {n : Nat} {k : Str} {t : Tok} {news' : Obj → List Cell} {Q : Value → Shared → Prop} (S : St B os G L m news s) (U : ∀ o', Up a o o' news (news' o')) (ho : SetO prog w o T n) (hn : n + 1 < scanBound)
 (h : ∀ o' s', SetO prog w o' (fun k' => T k' || decide (k' = k)) (if T k then n else n + 1) → St B os G L m (news' o') s' → Q .none s') : wpAny (model prog w) A (call (.builtin "set.add") [.ref a, .str k t]) Q E s := by
 refine call_set_add (isStrOf_str k t prog w) rfl (ho.heap (S.get (U o).mem)) hn (fun h' hs hS => ?_)
 obtain ⟨o', e, ho'⟩ := setOf_o hS
 exact h o' _ ho' (S.same (U o') hs e)
structure Cx (K : Frag) (B : Heap) : Prop where
 X : K.In B
 lim : B.NoLimit
 top : ∃ p loose mg mb, TopRead p loose mg mb B
theorem globS {M : Model} {a : Addr} {cn : Str} {cs : Scope} {ccd : Value} {x : Str} {pos : Pos} {v : Value} {Q : Value → Shared → Prop} (C : Cx K B) (S : St B os G L m news s) (e : nsIn K mainGlobals x = some (some v)) (h : Q v s)
 (hk : cs.kind = .function := by rfl) (hx : (envOf cn cs L a ccd).kindOf x = some .globalImplicit := by rfl) (hd : (x == ("__debug__" : Str)) = false := by decide) :
 wpAny M A (eval (.Name x pos) (envOf cn cs L a ccd)) Q E s :=
 let ⟨_, _, _, _, T⟩ := C.top; name_K S.F C.X T e h hk hx hd
theorem bltS {M : Model} {a : Addr} {cn : Str} {cs : Scope} {ccd : Value} {x : Str} {pos : Pos} {v : Value} {Q : Value → Shared → Prop} (C : Cx K B) (S : St B os G L m news s) (e : nsIn K mainGlobals x = some none) (hv : bootBuiltins x = some v) (hn : x ≠ "__name__") (h : Q v s)
 (hk : cs.kind = .function := by rfl) (hx : (envOf cn cs L a ccd).kindOf x = some .globalImplicit := by rfl) (hd : (x == ("__debug__" : Str)) = false := by decide) :
 wpAny M A (eval (.Name x pos) (envOf cn cs L a ccd)) Q E s :=
 let ⟨_, _, _, _, T⟩ := C.top; name_B S.F C.X T e hv hn h hk hx hd
end
end Mine
end
section
open PySem PySem.W PySem.Calls PyProof.Rows PySem.Builtin.Str
open PySem.Str (ofString)
namespace Mine
theorem slice_post {x : Str} {t : Tok} {l u : Option (Int × Tok)} {a b : Nat} {Q : Value → Shared → Prop} {s : Shared} (e : slicePicked x l u none = (List.range (b - a)).map (fun k => a + k)) (hab : a ≤ b) (hb : b ≤ x.length) (hsz : x.length ≤ sizeLine)
 (hQ : ∀ y t' tk, y.cps.toList = (x.cps.toList.drop a).take (b - a) → Q (.str y t') { s with toks := tk }) : (sliceMade x t l u none).post Q s := by
 have hp : (slicePicked x l u none).filterMap (x.cps[·]?) = (x.cps.toList.drop a).take (b - a) := by
  rw [e]
  have h := StrLaws.picks x.cps.toList (b - a) a (by simp [Str.length] at hb ⊢; lia)
  simpa using h
 unfold sliceMade
 split
 · rename_i q
   have hl : (slicePicked x l u none).length = x.length := by
    have := (Bool.and_eq_true_iff.mp q).2
    exact beq_iff_eq.mp this
   rw [e, List.length_map, List.length_range] at hl
   have ha : a = 0 := by lia
   have hb' : b = x.length := by lia
   refine hQ x t s.toks ?_
   rw [ha, hb', List.drop_zero, Nat.sub_zero]
   have : x.length = x.cps.toList.length := by simp [Str.length]
   rw [this, List.take_length]
 · refine ⟨?_, hQ _ _ _ (by rw [hp])⟩
   rw [hp]
   have : ((x.cps.toList.drop a).take (b - a)).length ≤ x.length := by
    simp [Str.length]; lia
   exact Nat.le_trans (by simpa [Str.length] using this) hsz
theorem pick_to1 (x : Str) (u : Tok) : slicePicked x none (some (1, u)) none = (List.range (min 1 x.length - 0)).map (fun k => 0 + k) := by
 show strSliceIndices none (some 1) 1 x.length = _
 generalize x.length = n
 cases n with
 | zero => decide
 | succ n =>
  have h : min 1 (n + 1) - 0 = 1 := by lia
  rw [h]
  unfold strSliceIndices
  have e : (max 0 (min (1 : Int) ((n + 1 : Nat) : Int))) = 1 := by lia
  simp only [show ¬ ((1 : Int) < 0) by decide, if_false, show (1 : Int) > 0 by decide, if_true, e]
  decide
section
variable {prog : Program} {w : World} {A : Around} {E : Value → Shared → Prop} {s s' : Shared} {B : Heap} {os : OsState} {G : Array GenState} {L : Addr} {m : Str → Option Value} {news news' : List Cell}
theorem headTest {x v c : Str} {t₀ : Tok} {p1 p2 p3 p4 p5 p6 : Pos} {k1 k2 : Nat} {name : Str} {scope : Scope} {f : Addr} {cd : Value} {whole : Sem Value} {Q : Bool → Shared → Prop} (S : St B os G L m news s) (hm : m x = some (.str v t₀)) (hsz : v.length ≤ sizeLine)
 (h : ∀ s', St B os G L m news s' → Q (v.cps.toList.take 1 == c.cps.toList) s')
 (hk : scope.kind = .function := by rfl) (hl : (envOf name scope L f cd).kindOf x = some .local := by rfl) (hd : (x == ("__debug__" : Str)) = false := by decide) :
 wpAny (model prog w) A (isTrue (.Compare (.Subscript (.Name x p1) (.Slice none (some (.Constant (.int 1) k1 p2)) none p3) p4) [.Eq] [.Constant (.str c) k2 p5] p6) (envOf name scope L f cd) whole) Q E s := by
 refine wpAny_isTrue_Compare1 ?_
 refine wpAny_Subscript_str_slice (ld S.F hm ?_ hk hl hd)
 rw [evalPart_none]
 refine wpAny_pure ?_
 rw [evalPart_some]
 refine wpAny_Constant_int ?_
 refine ⟨v, t₀, none, some (1, _), rfl, rfl, rfl, ?_⟩
 refine slice_post (pick_to1 v _) (Nat.zero_le _) (Nat.min_le_right _ _) hsz (fun y t' tk hy => ?_)
 refine wpAny_Constant_str (PySem.P.eq_str (wpAny_truthy_bool ?_))
 rw [hy, List.drop_zero, Nat.sub_zero]
 have e : v.cps.toList.take (min 1 v.length) = v.cps.toList.take 1 := by
  have : v.length = v.cps.toList.length := by simp [Str.length]
  rw [this]
  cases v.cps.toList with
  | nil => rfl
  | cons c r => simp
 rw [e]
 exact h _ (S.ext fun b o q => Heap.get?_push_of_some _ q)
theorem GenAt.of_push {oLg : Obj} {m' : Str → Option Value} {qual : Str} {scope : Scope} {f Lg st : Addr} {li : List Lv} {cd : Value} {p1 p2 p3 p4 p5 p6 p7 p8 p9 p10 : Pos}
 (S : St B os (G.push (.fresh (.func (nsBody p1 p2 p3 p4 p5 p6 p7 p8 p9 p10) (envOf qual scope Lg f cd)))) L m news s) (h1 : NsO oLg m') (h2 : m' (ofString "_reversed") = some (.type "reversed")) (h3 : m' (ofString "ns_stack") = some (.ref st))
 (hk : scope.kind = .function := by rfl) (l1 : (envOf qual scope Lg f cd).kindOf (ofString "namespaces") = some .local := by rfl) (l2 : (envOf qual scope Lg f cd).kindOf (ofString "_reversed") = some .local := by rfl) (l3 : (envOf qual scope Lg f cd).kindOf (ofString "ns_stack") = some .local := by rfl) :
 GenAt prog w A Lg st li G.size (outs li) [(Lg, oLg)] (G.push (.fresh (.func (nsBody p1 p2 p3 p4 p5 p6 p7 p8 p9 p10) (envOf qual scope Lg f cd)))) :=
 .fresh h1 h2 h3 hk l1 l2 l3 (by rw [Array.getElem?_push, if_pos rfl])
inductive Pairs (news : List Cell) : List Value → List (Str × Str) → Prop
 | nil : Pairs news [] []
 | cons {a : Addr} {u p : Str} {t1 t2 : Tok} {xs : List Value} {ps : List (Str × Str)} : (a, tupO #[.str u t1, .str p t2]) ∈ news → Pairs news xs ps → Pairs news (.ref a :: xs) ((u, p) :: ps)
theorem Pairs.mono {news news' : List Cell} {xs : List Value} {ps : List (Str × Str)} (x : Pairs news xs ps) (h : ∀ p ∈ news, p ∈ news') : Pairs news' xs ps := by
 induction x with
 | nil => exact .nil
 | cons a _ ih => exact .cons (h _ a) ih
theorem owned_gen {target : Expr} {ga : Addr} {oga : Obj} {v : Value} {Q : Unit → Shared → Prop} (S : St B os G L m news s) (h : (ga, oga) ∈ news) (hc : oga.cls = .type "generator") (hq : Q () s) : wpAny (model prog w) A (letOwnedTupleGo target (.ref ga) v) Q E s := by
 have key : wpAny (model prog w) A (do
  let (.ref r, .ref a) := (Value.ref ga, v) | return
  let o ← load r
  match o.cls, o.data with
  | .type n, .fields vs =>
   if ["enumerate", "zip", "dict_itemiterator", "dict_reverseitemiterator", "odict_iterator", "itertools.zip_longest", "itertools.pairwise"].contains n && vs[0]? == some (rawInt a) then
    rule "for.unpacks-the-owned-tuple"
    updateField r 0 .none
  | _, _ => pure ()) Q E s := by
  cases v with
  | ref a =>
   refine wpAny_bind (wpAny_load (S.get h) ?_)
   rw [hc]
   cases oga.data with
   | fields vs =>
    dsimp only
    rw [show ((["enumerate", "zip", "dict_itemiterator", "dict_reverseitemiterator", "odict_iterator", "itertools.zip_longest", "itertools.pairwise"] : List String).contains "generator") = false from by decide, Bool.false_and, if_neg (by decide)]
    exact wpAny_pure hq
   | _ => exact wpAny_pure hq
  | _ => exact wpAny_pure hq
 unfold letOwnedTupleGo
 cases target <;> first | exact key | exact wpAny_pure hq
end
end Mine
end
section
open PySem PySem.W PySem.Calls PyProof.Rows
open PySem.Str (ofString)
namespace Mine
section
variable {prog : Program} {w : World} {A : Around} {E : Value → Shared → Prop} {s s' : Shared} {B : Heap} {os : OsState} {G : Array GenState} {L : Addr} {m : Str → Option Value} {news' rest : List Cell} {env : Env}
theorem methodCall_S {o : Expr} {name : Str} {apos pos : Pos} {args : List Expr} {Q : Value → Shared → Prop} (hbase : attributeBase o name env (eval o env) = eval o env) (hfew : methodCallForm (args.length + ([] : List Keyword).length) (backTo pos (starEach args env)) (backToKw pos (keywordEach [] env)) = true)
 (hline : (apos.endLine == pos.line) = true)
 (h : wpAny (model prog w) A (eval o env) (fun ov s₁ => ∀ pl, wpAny (model prog w) A (getMethod ov name pl) (fun fx s₂ => wpAny (model prog w) A (callWith pos fx.1 fx.2 (backTo pos (starEach args env)) []) Q E s₂) E s₁) E s) :
 wpAny (model prog w) A (eval (.Call (.Attribute o name apos) args [] pos) env) Q E s := by
 rw [arm_eval_Call, hbase]
 refine wpAny_bind (wpAny_mono h (fun ov s₁ h₁ => ?_) fun _ _ e => e)
 refine wpAny_bind (wpAny_standAt ?_)
 have hpos : methodCallPos true o env apos pos = pure pos := by unfold methodCallPos; simp [hline]
 unfold methodCall
 rw [hfew]
 refine wpAny_bind (wpAny_holding (wpAny_mono (h₁ _) (fun fx s₂ h₂ => ?_) fun _ _ e => e))
 exact wpAny_bind (wpAny_of_eq hpos h₂)
theorem if_false' {c : Bool} {α : Sort _} {a b : α} (h : c = false) : (if c = true then a else b) = b := if_neg (by rw [h]; decide)
end
theorem slot_md_get : Slot "method_descriptor" "__get__" "method_descriptor.__get__" :=
 .of (owner := "method_descriptor") (n := "__get__") (by rw [typeLookup_type, builtinLookup_eq_fast]; kernel_rfl) (by decide +kernel) (by decide +kernel) (by decide +kernel)
  (by first | exact .inl (by decide +kernel) | exact .inr (by decide +kernel)) (by rw [isSubtype_type]; kernel_rfl)
theorem entry_md_get : entryFor table "method_descriptor.__get__" = some Builtin.«method_descriptor.__get__» := entryFor_of_tree (by kernel_rfl)
theorem args_md_get (a b c : Value) : argsOk "method_descriptor.__get__" ⟨[a, b, c], []⟩ := by unfold argsOk; kernel_rfl
theorem lk_list_append : typeLookup (.type "list") "append" = pure (some (.builtin "list.append")) := by rw [typeLookup_type, builtinLookup_eq_fast]; kernel_rfl
theorem lk_md_set : typeLookup (.type "method_descriptor") "__set__" = pure none := by rw [typeLookup_type, builtinLookup_eq_fast]; kernel_rfl
theorem lk_md_del : typeLookup (.type "method_descriptor") "__delete__" = pure none := by rw [typeLookup_type, builtinLookup_eq_fast]; kernel_rfl
theorem owner_list_append : (".".intercalate ("list.append".cutAt '.').dropLast) = "list" := by
 have e0 : "list.append".cutAt '.' = ["list", "append"] := by first | rfl | decide +kernel
 rw [e0]; decide +kernel
theorem sub_list_append : isSubtype (.type "list") (.type (".".intercalate ("list.append".cutAt '.').dropLast)) = pure true := by
 rw [owner_list_append, isSubtype_type]; kernel_rfl
noncomputable abbrev bmO (l : Addr) : Obj := { cls := .type "builtin_function_or_method", data := .fields #[.builtin "list.append", .ref l] }
section
variable {prog : Program} {w : World} {A : Around} {E : Value → Shared → Prop} {h : Heap} {g : Array GenState} {d : Drawn} {t : Nat} {os : OsState} {a : Addr} {o : Obj}
theorem append_get {R : Result → Shared → Prop} (hx : h.get? a = some o) (hc : o.cls = .type "list") (hq : R (.ok (.ret (.ref h.objs.size))) ⟨h.push (bmO a), g, d, t, os⟩) :
 codeAny (model prog w) A (.call (.builtin "method_descriptor.__get__") ⟨[.builtin "list.append", .ref a, .type "list"], []⟩) R ⟨h, g, d, t, os⟩ := by
 have hT : (⟨h, g, d, t, os⟩ : Shared).TypeIs (.ref a) "list" := ⟨_, hx, hc⟩
 have hT5 : (⟨h, g, d, t, os⟩ : Shared).TypeIs (.builtin "list.append") "method_descriptor" := PySem.F.type_list_append
 have f8 := sub_list_append
 refine codeAny_call_builtin slot_md_get.plain entry_md_get (slot_md_get.check _ _ _ _ _ _ _ _ hT5 (args_md_get _ _ _) ?_)
 repeat (any_goals (first | assumption | wp_step))
theorem append_entry {tk : Tok} {its : Array Value} {n : Nat} {Q : Fin → Shared → Prop} (hx : h.get? a = some (listOf its n)) (hq : Q (.done (.ret (.ref h.objs.size))) ⟨h.push (bmO a), g, d, t, os⟩) :
 wpAny (model prog w) A (Builtin.«object.__getattribute__» ⟨[.ref a, .str "append" tk], []⟩) Q E ⟨h, g, d, t, os⟩ := by
 have hT : (⟨h, g, d, t, os⟩ : Shared).TypeIs (.ref a) "list" := ⟨_, hx, rfl⟩
 have hT5 : (⟨h, g, d, t, os⟩ : Shared).TypeIs (.builtin "list.append") "method_descriptor" := PySem.F.type_list_append
 have f4 := lk_list_append
 have f5 := PySem.F.type_list_append
 have f6 := slot_md_get.lookup
 have f7 := lk_md_set
 have f8 := lk_md_del
 repeat (any_goals (first | assumption | wp_step))
 refine append_get hx rfl ?_
 repeat (any_goals (first | assumption | wp_step))
theorem append_call {tk : Tok} {its : Array Value} {n : Nat} {R : Result → Shared → Prop} (hx : h.get? a = some (listOf its n)) (hq : R (.ok (.ret (.ref h.objs.size))) ⟨h.push (bmO a), g, d, t, os⟩) :
 codeAny (model prog w) A (.call (.builtin "list.__getattribute__") ⟨[.ref a, .str "append" tk], []⟩) R ⟨h, g, d, t, os⟩ :=
 codeAny_call_builtin PySem.F.slot_list_getattribute.plain PySem.F.entry_list_ga (PySem.F.slot_list_getattribute.check _ _ _ _ _ _ _ _ (show (⟨h, g, d, t, os⟩ : Shared).TypeIs (.ref a) "list" from ⟨_, hx, rfl⟩) (PySem.F.args_list_getattribute_2 _ _) (append_entry hx hq))
theorem append_attr {its : Array Value} {n : Nat} {Q : Value → Shared → Prop} (hx : h.get? a = some (listOf its n)) (hq : Q (.ref h.objs.size) ⟨h.push (bmO a), g, d, t + 1, os⟩) :
 wpAny (model prog w) A (getAttr (.ref a) "append" true) Q E ⟨h, g, d, t, os⟩ := by
 have hT : (⟨h, g, d, t + 1, os⟩ : Shared).TypeIs (.ref a) "list" := ⟨_, hx, rfl⟩
 have f2 := PySem.F.slot_list_getattribute.lookup
 have f3 := PySem.F.slot_list_getattribute.bind (.ref a)
 unfold getAttr
 repeat (any_goals (first | assumption | wp_step))
 refine append_call hx ?_
 repeat (any_goals (first | assumption | wp_step))
end
section
variable {prog : Program} {w : World} {A : Around} {E : Value → Shared → Prop} {s s' : Shared} {B : Heap} {os : OsState} {G : Array GenState} {L : Addr} {m : Str → Option Value} {news news' : List Cell}
theorem appendAttrS {D : Addr} {its : Array Value} {n : Nat} {Q : Value → Shared → Prop} (S : St B os G L m news s) (hl : (D, listOf its n) ∈ news)
 (h : ∀ b s', St B os G L m ((b, bmO D) :: news) s' → Q (.ref b) s') : wpAny (model prog w) A (getAttr (.ref D) "append" true) Q E s := by
 obtain ⟨hp, g, d, t, o⟩ := s
 refine append_attr (S.get hl) (h _ _ ?_)
 exact S.push (t := t + 1) (bmO D)
theorem callWith_bm {pos : Pos} {u : Addr} {fs : Array Value} {first : List Value} {args : List (Bool × Sem Value)} {Q : Value → Shared → Prop} (hplain : args.any (·.1) = false)
 (h : wpAny (model prog w) A (evalArgs (.ref u) true args []) (fun x s₁ => s₁.heap.get? u = some { cls := .type "builtin_function_or_method", data := .fields fs } ∧ wpAny (model prog w) A (call (.ref u) (first ++ x.pos) x.kw) Q E s₁) E s) : wpAny (model prog w) A (callWith pos (.ref u) first args []) Q E s := by
 unfold callWith
 refine wpAny_bind (wpAny_holding (wpAny_mono h (fun x s₁ h₁ => wpAny_bind (wpAny_standAt ?_)) fun _ _ x => x))
 obtain ⟨ho, hcall⟩ := h₁
 simp only [hplain, List.any_nil, Bool.or_false]
 refine wpAny_bind (m := keeperOf (.ref u)) ?_
 unfold keeperOf
 refine wpAny_bind (wpAny_load ho ?_)
 simp only [show (Value.type "builtin_function_or_method" != Value.type "method") = true by decide, show (Value.type "builtin_function_or_method" == Value.type "builtin_function_or_method" || Value.type "builtin_function_or_method" == Value.type "method-wrapper") = true by decide, if_true]
 refine wpAny_pure ?_
 exact wpAny_bind (wpAny_mono hcall (fun r s₂ hr => wpAny_bind (wpAny_holding (wpAny_point (wpAny_pure hr)))) fun _ _ x => x)
theorem callWith_bmS {pos : Pos} {u : Addr} {fs : Array Value} {first : List Value} {env : Env} {e : Expr} {rest : List Expr} {Q : Value → Shared → Prop}
 (h : wpAny (model prog w) A (spliced (backTo pos (starEach (e :: rest) env))) (fun vs s₁ => s₁.heap.get? u = some { cls := .type "builtin_function_or_method", data := .fields fs } ∧ wpAny (model prog w) A (call (.ref u) (first ++ vs)) Q E s₁) E s)
 (he : starEach (e :: rest) env = (false, eval e env) :: starEach rest env := by rfl) (hplain : (backTo pos (starEach rest env)).any (·.1) = false := by rfl) :
 wpAny (model prog w) A (callWith pos (.ref u) first (backTo pos (starEach (e :: rest) env)) []) Q E s := by
 rw [he] at h ⊢
 refine callWith_bm (fs := fs) (by show (false || (backTo pos (starEach rest env)).any (·.1)) = false; rw [hplain]; rfl) ?_
 exact evalArgs_plain h
theorem sub_list_module : isSubtype (.type "list") (.type "module") = pure false := by rw [isSubtype_type]; kernel_rfl
theorem bmCallS {b D : Addr} {its : Array Value} {n : Nat} {v : Value} {Q : Value → Shared → Prop} (S : St B os G L m news s) (hb : (b, bmO D) ∈ news) (U : Up D (listOf its n) (listOf (its.push v) (n + 1)) news news')
 (h : ∀ s', St B os G L m news' s' → Q .none s') (hsz : its.size ≤ sizeLine := by size_fits) : wpAny (model prog w) A (call (.ref b) [v]) Q E s := by
 have hb' := S.get hb
 have hD := S.get U.mem
 refine wpAny_call (codeAny_of_tree ?_)
 show wpAny _ A.in1 (callAny (.ref b) ⟨[v], []⟩) _ _ s
 simp only [callAny]
 refine wpAny_bind (wpAny_load hb' ?_)
 simp only [show (Value.type "builtin_function_or_method" == Value.type "method" || Value.type "builtin_function_or_method" == Value.type "builtin_function_or_method" || Value.type "builtin_function_or_method" == Value.type "method-wrapper") = true by decide, if_true]
 refine KFB.if_so (by decide) ?_
 have hT : s.TypeIs (.ref D) "list" := ⟨_, hD, rfl⟩
 have f1 := sub_list_module
 show wpAny _ _ (checkBoundCall "list.append" ⟨[.ref D, v], []⟩ >>= fun _ => again (.builtin "list.append" ⟨[.ref D, v], []⟩)) _ _ _
 refine wpAny_bind ?_
 repeat (any_goals (first | assumption | wp_step))
 refine ⟨Code.quiet_builtin _ (by decide +kernel), codeAny_builtin entry_list_append ?_⟩
 show wpAny _ _ (updateSeq D (·.push v) >>= fun _ => ret .none) _ _ _
 refine wpAny_bind (wpAny_updateSeq hD rfl (wpAny_pure ?_) hsz)
 exact h _ (S.same (t := s.toks) U (Heap.SameBut.update ..) (by rw [Heap.get?_update_self _ hD (by rw [mapSeq_push]; rfl), mapSeq_push]))
end
noncomputable def bapp {α : Type} : Sum α (List α) → List α → List α | .inl a, r => a :: r | .inr l, r => l ++ r
noncomputable def nthB {α : Type} : List (Sum α (List α)) → Nat → Sum α (List α) | [], _ => .inr [] | x :: _, 0 => x | _ :: r, n + 1 => nthB r n
noncomputable def blk {α : Type} (e : List (Sum α (List α))) (t : List α) : List Nat → List α | [] => t | i :: r => bapp (nthB e i) (blk e t r)
theorem bapp_swap {α : Type} (x y : Sum α (List α)) (r : List α) : (bapp x (bapp y r)).Perm (bapp y (bapp x r)) := by
 cases x <;> cases y
 · exact .swap ..
 · exact List.perm_middle.symm
 · exact List.perm_middle
 · exact (List.Perm.of_eq (List.append_assoc ..).symm).trans ((List.perm_append_comm.append_right r).trans (.of_eq (List.append_assoc ..)))
theorem bapp_cons {α : Type} (x : Sum α (List α)) {r r' : List α} (h : r.Perm r') : (bapp x r).Perm (bapp x r') := by
 cases x
 · exact .cons _ h
 · exact h.append_left _
theorem permI {α : Type} (e : List (Sum α (List α))) (t : List α) (is js : List Nat) (h : is.isPerm js = true) : (blk e t is).Perm (blk e t js) :=
 List.Perm.rec (motive := fun a b _ => (blk e t a).Perm (blk e t b)) (.refl _) (fun i _ _ _ ih => bapp_cons _ ih) (fun _ _ _ => bapp_swap ..) (fun _ _ h1 h2 => h1.trans h2) (List.isPerm_iff.mp h)
section
variable {A : Around} {E : Value → Shared → Prop} {s : Shared} {B : Heap} {os : OsState} {G : Array GenState} {L : Addr} {m : Str → Option Value} {news : List Cell}
theorem St.hide {P : Prop} (S : St B os G L m news s) (h : ∀ N, N = news → St B os G L m N s → P) : P := h news rfl S
theorem wabs {α : Type} {M : Model} {mm : Sem α} {Q : α → Shared → Prop} (h : ∀ Q' E', (∀ f s, Q f s → Q' f s) → wpAny M A mm Q' E' s) : wpAny M A mm Q E s := h Q E fun _ _ x => x
theorem nm4 {P : Prop} {x1 x2 x3 x4 : Str} {v1 v2 v3 v4 : Value} (S : St B os G L m news s) (e1 : m x1 = some v1) (e2 : m x2 = some v2) (e3 : m x3 = some v3) (e4 : m x4 = some v4) (k : ∀ m', St B os G L m' news s → m' x1 = some v1 → m' x2 = some v2 → m' x3 = some v3 → m' x4 = some v4 → P) : P := k m S e1 e2 e3 e4
theorem nm5 {P : Prop} {x1 x2 x3 x4 x5 : Str} {v1 v2 v3 v4 v5 : Value} (S : St B os G L m news s) (e1 : m x1 = some v1) (e2 : m x2 = some v2) (e3 : m x3 = some v3) (e4 : m x4 = some v4) (e5 : m x5 = some v5) (k : ∀ m', St B os G L m' news s → m' x1 = some v1 → m' x2 = some v2 → m' x3 = some v3 → m' x4 = some v4 → m' x5 = some v5 → P) : P := k m S e1 e2 e3 e4 e5
theorem nm6 {P : Prop} {x1 x2 x3 x4 x5 x6 : Str} {v1 v2 v3 v4 v5 v6 : Value} (S : St B os G L m news s) (e1 : m x1 = some v1) (e2 : m x2 = some v2) (e3 : m x3 = some v3) (e4 : m x4 = some v4) (e5 : m x5 = some v5) (e6 : m x6 = some v6) (k : ∀ m', St B os G L m' news s → m' x1 = some v1 → m' x2 = some v2 → m' x3 = some v3 → m' x4 = some v4 → m' x5 = some v5 → m' x6 = some v6 → P) : P := k m S e1 e2 e3 e4 e5 e6
theorem nm9 {P : Prop} {x1 x2 x3 x4 x5 x6 x7 x8 x9 : Str} {v1 v2 v3 v4 v5 v6 v7 v8 v9 : Value} (S : St B os G L m news s) (e1 : m x1 = some v1) (e2 : m x2 = some v2) (e3 : m x3 = some v3) (e4 : m x4 = some v4) (e5 : m x5 = some v5) (e6 : m x6 = some v6) (e7 : m x7 = some v7) (e8 : m x8 = some v8) (e9 : m x9 = some v9) (k : ∀ m', St B os G L m' news s → m' x1 = some v1 → m' x2 = some v2 → m' x3 = some v3 → m' x4 = some v4 → m' x5 = some v5 → m' x6 = some v6 → m' x7 = some v7 → m' x8 = some v8 → m' x9 = some v9 → P) : P := k m S e1 e2 e3 e4 e5 e6 e7 e8 e9
theorem St.cast {a b : List Cell} (S : St B os G L m a s) (e : a = b) : St B os G L m b s := e ▸ S
theorem St.castC {a b : List Cell} {p : Cell} (S : St B os G L m (p :: a) s) (e : a = b) : St B os G L m (p :: b) s := e ▸ S
end
theorem dp0 {A : Around} {a b : Nat} (h : A.depth + a < recursionLimit) (hab : b ≤ a := by decide) : A.depth + b < recursionLimit := Nat.lt_of_le_of_lt (Nat.add_le_add_left hab _) h
theorem dp {A : Around} {e : Env} {a b : Nat} (h : A.depth + a < recursionLimit) (hab : 1 + b ≤ a := by decide) : (A.deeper e).depth + b < recursionLimit := Nat.lt_of_le_of_lt (Nat.le_trans (Nat.le_of_eq (Nat.add_assoc A.depth 1 b)) (Nat.add_le_add_left hab _)) h
theorem du {A : Around} {e : Env} {a b : Nat} (h : A.units + a < cLine) (hab : 3 + b ≤ a := by decide) : (A.deeper e).units + b < cLine := Nat.lt_of_le_of_lt (Nat.le_trans (Nat.le_of_eq (Nat.add_assoc A.units 3 b)) (Nat.add_le_add_left hab _)) h
noncomputable def findP (uri : Str) : List (Str × Str) → (Str → Bool) → Option Str
 | [], _ => none
 | (u, p) :: r, T => if u = uri ∧ T p = false then some p else findP uri r (fun k => T k || decide (k = p))
theorem str_beq (x y : Str) : (x.cps.toList == y.cps.toList) = decide (x = y) := by
 by_cases h : x = y
 · subst h; simp
 · have : ¬ x.cps.toList = y.cps.toList := fun e => h (Str.ext' (Array.toList_inj.mp e))
   rw [beq_eq_false_iff_ne.mpr this, decide_eq_false h]
section
variable {prog : Program} {w : World} {A : Around} {s s' : Shared} {B : Heap} {os : OsState} {G : Array GenState} {L : Addr} {m : Str → Option Value} {news news' rest : List Cell}
inductive JQ (prog : Program) (w : World) (A : Around) (B : Heap) (os : OsState) (L : Addr) (m : Str → Option Value) (rest : List Cell) (Lg st ga ps : Addr) (oga : Obj) (li : List Lv) (g : Nat) (uri : Str) (pp : List (Str × Str)) (T : Str → Bool) (n : Nat) (s : Shared) : Prop
 | mk {xs gc G m' ops T' k pp'} (hn : n = xs.length) (GA : GenAt prog w A.in1 Lg st li g xs gc G) (S : St B os G L m' (gc ++ ((ga, oga) :: (ps, ops) :: rest)) s) (hops : SetO prog w ops T' k) (hk : k + xs.length + 1 < scanBound) (hpp : Pairs rest xs pp') (hfi : findP uri pp' T' = findP uri pp T)
  (hT : ∀ y, T' y = true → T y = true ∨ ∃ p ∈ pp, p.2 = y) (hsub : ∀ p ∈ pp', p ∈ pp) (hm : ∀ y, y ≠ ofString "u" → y ≠ ofString "prefix" → m' y = m y) : JQ prog w A B os L m rest Lg st ga ps oga li g uri pp T n s
theorem JQ.elim {prog : Program} {w : World} {A : Around} {B : Heap} {os : OsState} {L : Addr} {m : Str → Option Value} {rest : List Cell} {Lg st ga ps : Addr} {oga : Obj} {li : List Lv} {g : Nat} {uri : Str} {pp : List (Str × Str)} {T : Str → Bool} {n : Nat} {s : Shared} {P : Prop} (h : JQ prog w A B os L m rest Lg st ga ps oga li g uri pp T n s)
 (k : ∀ xs gc G m' ops T' k pp', n = xs.length → GenAt prog w A.in1 Lg st li g xs gc G → St B os G L m' (gc ++ ((ga, oga) :: (ps, ops) :: rest)) s → SetO prog w ops T' k → k + xs.length + 1 < scanBound → Pairs rest xs pp' → findP uri pp' T' = findP uri pp T → (∀ y, T' y = true → T y = true ∨ ∃ p ∈ pp, p.2 = y) → (∀ p ∈ pp', p ∈ pp) → (∀ y, y ≠ ofString "u" → y ≠ ofString "prefix" → m' y = m y) → P) : P := by
 cases h with
 | mk a1 a2 a3 a4 a5 a6 a7 a8 a9 a10 => exact k _ _ _ _ _ _ _ _ a1 a2 a3 a4 a5 a6 a7 a8 a9 a10
theorem nmQ {P : Prop} {B : Heap} {os : OsState} {G : Array GenState} {L : Addr} {m m0 : Str → Option Value} {news : List Cell} {s : Shared} {u p uri : Str} {t1 t2 tu : Tok} {ps : Addr} (S : St B os G L (updM (updM m (ofString "u") (.str u t1)) (ofString "prefix") (.str p t2)) news s) (hm : ∀ y, y ≠ ofString "u" → y ≠ ofString "prefix" → m y = m0 y)
 (m1 : m0 (ofString "uri") = some (.str uri tu)) (m2 : m0 (ofString "prefixes_seen") = some (.ref ps))
 (k : ∀ m', St B os G L m' news s → (∀ y, y ≠ ofString "u" → y ≠ ofString "prefix" → m' y = m0 y) → m' (ofString "u") = some (.str u t1) → m' (ofString "prefix") = some (.str p t2) → m' (ofString "uri") = some (.str uri tu) → m' (ofString "prefixes_seen") = some (.ref ps) → P) : P := by
 have ho : ∀ y, y ≠ ofString "u" → y ≠ ofString "prefix" → updM (updM m (ofString "u") (.str u t1)) (ofString "prefix") (.str p t2) y = m0 y := fun y h1 h2 => (updM_ne h2).trans ((updM_ne h1).trans (hm y h1 h2))
 exact k _ S ho (by rfl) (by rfl) ((ho _ (by decide) (by decide)).trans m1) ((ho _ (by decide) (by decide)).trans m2)
theorem Pairs.nilE {c : List Cell} {pp : List (Str × Str)} (h : Pairs c [] pp) : pp = [] := by
 cases h
 rfl
theorem Pairs.consE {P : Prop} {c : List Cell} {v : Value} {xs : List Value} {pp : List (Str × Str)} (h : Pairs c (v :: xs) pp) (k : ∀ a u p t1 t2 r, v = .ref a → pp = (u, p) :: r → (a, tupO #[.str u t1, .str p t2]) ∈ c → Pairs c xs r → P) : P := by
 cases h with
 | cons x r => exact k _ _ _ _ _ _ rfl rfl x r
theorem qloop {R : Result → Shared → Prop} {qual : Str} {scope : Scope} {f Lg st ga ps : Addr} {cd : Value} {li : List Lv} {g : Nat} {oga ops : Obj} {nm qn : Value} {xs : List Value} {gc : List Cell} {pp : List (Str × Str)} {T : Str → Bool} {k : Nat} {uri : Str} {tu : Tok}
 {q1 q2 q3 q4 q5 q6 q7 q8 q9 q10 q11 q12 q13 c1 c2 c3 : Pos} {kt : Nat} {rs : List Stmt}
 (hh : A.handled = none) (hlim : B.NoLimit) (hroom : A.depth < recursionLimit) (S : St B os G L m (gc ++ ((ga, oga) :: (ps, ops) :: rest)) s) (hc : oga.cls = .type "generator") (hd : oga.data = .fields #[.int g 0, nm, qn]) (hsl : oga.slots = #[])
 (stk : StkL st li rest) (hsz : ∀ p ∈ li, (p.2.size : Int) < 2 ^ 63) (GA : GenAt prog w A.in1 Lg st li g xs gc G) (hops : SetO prog w ops T k) (hk : k + xs.length + 1 < scanBound) (hpp : Pairs rest xs pp)
 (m1 : m (ofString "uri") = some (.str uri tu)) (m2 : m (ofString "prefixes_seen") = some (.ref ps))
 (fin : ∀ G' m' ops' T' k' s', findP uri pp T = none → St B os G' L m' ((ga, oga) :: (ps, ops') :: rest) s' → SetO prog w ops' T' k' → (∀ y, T' y = true → T y = true ∨ ∃ p ∈ pp, p.2 = y) → (∀ y, y ≠ ofString "u" → y ≠ ofString "prefix" → m' y = m y) → R (.ok .next) s')
 (found : ∀ p G' gc' m' ops' tp s', findP uri pp T = some p → m' (ofString "prefix") = some (.str p tp) → (∀ y, y ≠ ofString "u" → y ≠ ofString "prefix" → m' y = m y) → St B os G' L m' (gc' ++ ((ga, oga) :: (ps, ops') :: rest)) s' → wpAny (model prog w) A (execs rs (envOf qual scope L f cd)) (fun fl s₃ => ∃ v, fl = .ret v ∧ R (.ok (.ret v)) s₃) (fun _ _ => False) s')
 (hkd : scope.kind = .function) (l1 : (envOf qual scope L f cd).kindOf (ofString "u") = some .local) (l2 : (envOf qual scope L f cd).kindOf (ofString "prefix") = some .local) (l3 : (envOf qual scope L f cd).kindOf (ofString "uri") = some .local) (l4 : (envOf qual scope L f cd).kindOf (ofString "prefixes_seen") = some .local)
 (hline : (q10.endLine == q12.line) = true) :
 codeAny (model prog w) A (.forLoop (.Tuple [.Name (ofString "u") q1, .Name (ofString "prefix") q2] kt q3) (.ref ga)
  [.If (.BoolOp .And [.Compare (.Name (ofString "u") q4) [.Eq] [.Name (ofString "uri") q5] q6, .Compare (.Name (ofString "prefix") c1) [.NotIn] [.Name (ofString "prefixes_seen") c2] c3] q7) rs [] q8,
   .Expr (.Call (.Attribute (.Name (ofString "prefixes_seen") q9) (ofString "add") q10) [.Name (ofString "prefix") q11] [] q12) q13] [] (envOf qual scope L f cd)) R s := by
 refine codeAny_forLoop_any (fun n s => JQ prog w A B os L m rest Lg st ga ps oga li g uri pp T n s) ?_ xs.length (.mk rfl GA S hops hk hpp rfl (fun _ h => .inl h) (fun _ h => h) (fun _ _ _ => rfl))
 intro n s hJ
 refine hJ.elim (fun xs gc G m' ops' T' k' pp' en GA S hops hk hpp hfi hT hsub hm => ?_)
 rw [en]
 clear hJ
 refine next_ns hh hlim hroom S (List.Mem.head _) hc hd hsl (stk.mono fun p hp => .tail _ (.tail _ hp)) hsz GA ?_ ?_
 · intro e G' s' S'
   rw [e] at hpp
   exact wpAny_execs_nil (fin G' m' ops' T' k' s' (by rw [← hfi, hpp.nilE]; rfl) S' hops hT hm)
 · intro v xs' gc' G' s' exs GA' S'
   rw [exs] at hpp hk
   refine hpp.consE (fun a u p t1 t2 pr ea epp hmem hrest => ?_)
   rw [epp] at hfi hsub
   rw [ea, show xs.length = xs'.length + 1 by rw [exs]; rfl]
   have hmem' : (a, tupO #[.str u t1, .str p t2]) ∈ gc' ++ ((ga, oga) :: (ps, ops') :: rest) := List.mem_append_right _ (.tail _ (.tail _ hmem))
   refine owned_gen S' (List.mem_append_right _ (.head _)) hc ?_
   refine unpack2S S' hh hmem' (fun s S => ?_) hkd l1 l2
   refine wabs (fun Q' E' hQ' => ?_)
   refine nmQ S hm m1 m2 (fun m2' S hothers n1 n2 n3 n4 => ?_)
   have step : ∀ {s : Shared}, findP uri ((u, p) :: pr) T' = findP uri pr (fun k => T' k || decide (k = p)) → St B os G' L m2' (gc' ++ ((ga, oga) :: (ps, ops') :: rest)) s →
    wpAny (model prog w) A (execs [.Expr (.Call (.Attribute (.Name (ofString "prefixes_seen") q9) (ofString "add") q10) [.Name (ofString "prefix") q11] [] q12) q13] (envOf qual scope L f cd)) Q' E' s := by
    intro s he S
    refine wpAny_execs_cons (wpAny_Expr_any ?_ (by show (scope.kind == .module && (scope.more.any _)) = false; rw [hkd]; rfl) (by rfl))
    refine methodCall_S rfl rfl hline (ld S.F n4 ?_ hkd l4)
    intro pl
    refine getMethod_set_add (hops.heap (S.get (List.mem_append_right _ (.tail _ (.head _))))) ?_
    refine callWith_method1 ?_ rfl
    refine spliced_more (ld S.F n2 ?_ hkd l2) rfl
    refine spliced_none ?_
    refine addS (news' := fun o' => gc' ++ ((ga, oga) :: (ps, o') :: rest)) S (fun o' => (Up.tail .head).pre gc') hops (by simp at hk; lia) (fun o' s hops' S => ?_)
    refine wpAny_execs_nil (hQ' .next _ ⟨xs'.length, Nat.lt_succ_self _, .mk rfl GA' S hops' ?_ hrest ?_ ?_ (fun q hq => hsub q (.tail _ hq)) hothers⟩)
    · simp only [List.length_cons] at hk
      split <;> lia
    · rw [← hfi, he]
    · intro y hy
      rcases Bool.or_eq_true_iff.mp hy with h | h
      · exact hT y h
      · exact .inr ⟨(u, p), hsub _ (.head _), (of_decide_eq_true h).symm⟩
   refine wpAny_execs_cons (wpAny_If (wpAny_isTrue_BoolOp (wpAny_allTrue_And_cons ?_)))
   refine wpAny_isTrue_Compare1 (ld S.F n1 ?_ hkd l1) (by rfl)
   refine ld S.F n3 ?_ hkd l3
   refine PySem.P.eq_str (wpAny_truthy_bool ?_)
   rw [str_beq]
   by_cases e1 : u = uri
   · rw [decide_eq_true e1, if_pos rfl]
     refine wpAny_allTrue_And_cons (wpAny_isTrue_Compare1 (ld S.F n2 ?_ hkd l2) (by rfl))
     refine ld S.F n4 ?_ hkd l4
     refine notInS S (List.mem_append_right _ (.tail _ (.head _))) hops (fun s S => wpAny_truthy_bool ?_)
     cases q : T' p with
     | false =>
      rw [if_pos (by rfl)]
      refine wpAny_allTrue_And_nil ?_
      rw [if_pos rfl]
      refine wpAny_mono (found p G' gc' _ ops' t2 s (by rw [← hfi, findP, if_pos ⟨e1, q⟩]) n2 hothers S) ?_ fun _ _ z => z.elim
      rintro fl s₃ ⟨v, rfl, hv⟩
      exact hQ' _ _ hv
     | true =>
      rw [if_neg (by decide)]
      rw [if_neg (by decide)]
      refine wpAny_execs_nil ?_
      exact step (by rw [findP, if_neg (fun z => by rw [q] at z; cases z.2)]) S
   · rw [decide_eq_false e1, if_neg (by decide)]
     rw [if_neg (by decide)]
     refine wpAny_execs_nil ?_
     exact step (by rw [findP, if_neg (fun z => e1 z.1)]) S
end
noncomputable def firstP (uri : Str) : List (Str × Str) → Option Str
 | [] => none
 | (u, p) :: r => if u = uri then some p else firstP uri r
section
variable {prog : Program} {w : World} {A : Around} {s s' : Shared} {B : Heap} {os : OsState} {G : Array GenState} {L : Addr} {m : Str → Option Value} {rest : List Cell}
inductive JQ2 (prog : Program) (w : World) (A : Around) (B : Heap) (os : OsState) (L : Addr) (m : Str → Option Value) (rest : List Cell) (Lg st ga : Addr) (oga : Obj) (li : List Lv) (g : Nat) (uri : Str) (pp : List (Str × Str)) (n : Nat) (s : Shared) : Prop
 | mk {xs gc G m' pp'} (hn : n = xs.length) (GA : GenAt prog w A.in1 Lg st li g xs gc G) (S : St B os G L m' (gc ++ ((ga, oga) :: rest)) s) (hpp : Pairs rest xs pp') (hfi : firstP uri pp' = firstP uri pp) (hm : ∀ y, y ≠ ofString "u" → y ≠ ofString "prefix" → m' y = m y) : JQ2 prog w A B os L m rest Lg st ga oga li g uri pp n s
theorem JQ2.elim {prog : Program} {w : World} {A : Around} {B : Heap} {os : OsState} {L : Addr} {m : Str → Option Value} {rest : List Cell} {Lg st ga : Addr} {oga : Obj} {li : List Lv} {g : Nat} {uri : Str} {pp : List (Str × Str)} {n : Nat} {s : Shared} {P : Prop} (h : JQ2 prog w A B os L m rest Lg st ga oga li g uri pp n s)
 (k : ∀ xs gc G m' pp', n = xs.length → GenAt prog w A.in1 Lg st li g xs gc G → St B os G L m' (gc ++ ((ga, oga) :: rest)) s → Pairs rest xs pp' → firstP uri pp' = firstP uri pp → (∀ y, y ≠ ofString "u" → y ≠ ofString "prefix" → m' y = m y) → P) : P := by
 cases h with
 | mk a1 a2 a3 a4 a5 a6 => exact k _ _ _ _ _ a1 a2 a3 a4 a5 a6
theorem qloop2 {R : Result → Shared → Prop} {qual : Str} {scope : Scope} {f Lg st ga : Addr} {cd : Value} {li : List Lv} {g : Nat} {oga : Obj} {nm qn : Value} {xs : List Value} {gc : List Cell} {pp : List (Str × Str)} {uri : Str} {tu : Tok}
 {q1 q2 q3 q4 q5 q6 q8 : Pos} {kt : Nat} {rs : List Stmt}
 (hh : A.handled = none) (hlim : B.NoLimit) (hroom : A.depth < recursionLimit) (S : St B os G L m (gc ++ ((ga, oga) :: rest)) s) (hc : oga.cls = .type "generator") (hd : oga.data = .fields #[.int g 0, nm, qn]) (hsl : oga.slots = #[])
 (stk : StkL st li rest) (hsz : ∀ p ∈ li, (p.2.size : Int) < 2 ^ 63) (GA : GenAt prog w A.in1 Lg st li g xs gc G) (hpp : Pairs rest xs pp)
 (m1 : m (ofString "uri") = some (.str uri tu))
 (fin : ∀ G' m' s', firstP uri pp = none → St B os G' L m' ((ga, oga) :: rest) s' → (∀ y, y ≠ ofString "u" → y ≠ ofString "prefix" → m' y = m y) → R (.ok .next) s')
 (found : ∀ p G' gc' m' tp s', firstP uri pp = some p → m' (ofString "prefix") = some (.str p tp) → (∀ y, y ≠ ofString "u" → y ≠ ofString "prefix" → m' y = m y) → St B os G' L m' (gc' ++ ((ga, oga) :: rest)) s' → wpAny (model prog w) A (execs rs (envOf qual scope L f cd)) (fun fl s₃ => ∃ v, fl = .ret v ∧ R (.ok (.ret v)) s₃) (fun _ _ => False) s')
 (hkd : scope.kind = .function) (l1 : (envOf qual scope L f cd).kindOf (ofString "u") = some .local) (l2 : (envOf qual scope L f cd).kindOf (ofString "prefix") = some .local) (l3 : (envOf qual scope L f cd).kindOf (ofString "uri") = some .local) :
 codeAny (model prog w) A (.forLoop (.Tuple [.Name (ofString "u") q1, .Name (ofString "prefix") q2] kt q3) (.ref ga)
  [.If (.Compare (.Name (ofString "u") q4) [.Eq] [.Name (ofString "uri") q5] q6) rs [] q8] [] (envOf qual scope L f cd)) R s := by
 refine codeAny_forLoop_any (fun n s => JQ2 prog w A B os L m rest Lg st ga oga li g uri pp n s) ?_ xs.length (.mk rfl GA S hpp rfl (fun _ _ _ => rfl))
 intro n s hJ
 refine hJ.elim (fun xs gc G m' pp' en GA S hpp hfi hm => ?_)
 rw [en]
 clear hJ
 refine next_ns hh hlim hroom S (List.Mem.head _) hc hd hsl (stk.mono fun p hp => .tail _ hp) hsz GA ?_ ?_
 · intro e G' s' S'
   rw [e] at hpp
   exact wpAny_execs_nil (fin G' m' s' (by rw [← hfi, hpp.nilE]; rfl) S' hm)
 · intro v xs' gc' G' s' exs GA' S'
   rw [exs] at hpp
   refine hpp.consE (fun a u p t1 t2 pr ea epp hmem hrest => ?_)
   rw [epp, firstP] at hfi
   rw [ea, show xs.length = xs'.length + 1 by rw [exs]; rfl]
   have hmem' : (a, tupO #[.str u t1, .str p t2]) ∈ gc' ++ ((ga, oga) :: rest) := List.mem_append_right _ (.tail _ hmem)
   refine owned_gen S' (List.mem_append_right _ (.head _)) hc ?_
   refine unpack2S S' hh hmem' (fun s S => ?_) hkd l1 l2
   have hothers : ∀ y, y ≠ ofString "u" → y ≠ ofString "prefix" → (updM (updM m' (ofString "u") (Value.str u t1)) (ofString "prefix") (Value.str p t2)) y = m y := fun y h1 h2 => (updM_ne h2).trans ((updM_ne h1).trans (hm y h1 h2))
   refine wabs (fun Q' E' hQ' => ?_)
   refine wpAny_execs_cons (wpAny_If ?_)
   refine wpAny_isTrue_Compare1 (ld S.F (v := .str u t1) (by rfl) ?_ hkd l1) (by rfl)
   refine ld S.F (v := .str uri tu) ((hothers _ (by decide) (by decide)).trans m1) ?_ hkd l3
   refine PySem.P.eq_str (wpAny_truthy_bool ?_)
   rw [str_beq]
   by_cases e1 : u = uri
   · rw [if_pos e1] at hfi
     rw [decide_eq_true e1, if_pos rfl]
     refine wpAny_mono (found p G' gc' _ t2 s hfi.symm (by rfl) hothers S) ?_ fun _ _ z => z.elim
     rintro fl s₃ ⟨v, rfl, hv⟩
     exact hQ' _ _ hv
   · rw [if_neg e1] at hfi
     rw [decide_eq_false e1, if_neg (by decide)]
     exact wpAny_execs_nil (wpAny_execs_nil (hQ' .next _ ⟨xs'.length, Nat.lt_succ_self _, .mk rfl GA' S hrest hfi hothers⟩))
end
noncomputable def pw {α : Type} (n : Nat) (lt : Nat → Nat → Bool) : KasT α → (α → Prop) → Prop
 | .ret a, Q => Q a
 | .ask i j k, Q => i < n ∧ j < n ∧ pw n lt (k (lt i j)) Q
section
variable {α β : Type} {n : Nat} {lt : Nat → Nat → Bool}
theorem pw_bind {f : α → KasT β} {Q : β → Prop} : ∀ (t : KasT α), pw n lt t (fun a => pw n lt (f a) Q) → pw n lt (t.bind f) Q
 | .ret _, h => h
 | .ask _ _ _, h => ⟨h.1, h.2.1, pw_bind _ h.2.2⟩
theorem pw_wp {cmp : Nat → Nat → (Bool → Shared → Prop) → Shared → Prop} {I : Shared → Prop} {G : α → Shared → Prop} (hc : ∀ i j C s, i < n → j < n → I s → (∀ s', I s' → C (lt i j) s') → cmp i j C s) :
 ∀ (t : KasT α) (s : Shared), I s → pw n lt t (fun a => ∀ s', I s' → G a s') → t.kasWp cmp G s
 | .ret a, s, hi, h => h s hi
 | .ask i j k, s, hi, h => hc i j _ s h.1 h.2.1 hi fun s' hi' => pw_wp hc (k (lt i j)) s' hi' h.2.2
structure Ordn (n : Nat) (lt : Nat → Nat → Bool) : Prop where
 asy : ∀ i j, lt i j = true → lt j i = false
 tot : ∀ i j, i < n → j < n → i ≠ j → lt i j = true ∨ lt j i = true
 tr : ∀ i j k, lt i j = true → lt j k = true → lt i k = true
structure Arr (n : Nat) (p : Array Nat) : Prop where
 perm : p.Perm (List.range n).toArray
theorem Arr.size {p : Array Nat} (h : Arr n p) : p.size = n := by rw [h.perm.size_eq]; simp
theorem Arr.nd {p : Array Nat} (h : Arr n p) : p.toList.Nodup := by
 have := Array.perm_iff_toList_perm.mp h.perm
 exact this.nodup_iff.mpr (by simpa using List.nodup_range)
theorem Arr.below {p : Array Nat} (h : Arr n p) {i : Nat} (hi : i < n) : p.getD i 0 < n := by
 have hs := h.size
 have e : p.getD i 0 = p[i]'(by lia) := by simp [Array.getD, show i < p.size by lia]
 rw [e]
 have hm : p[i]'(by lia) ∈ p.toList := by simp
 have := (Array.perm_iff_toList_perm.mp h.perm).subset hm
 simpa using this
theorem Arr.inj {p : Array Nat} (h : Arr n p) {i j : Nat} (hi : i < n) (hj : j < n) (hne : i ≠ j) : p.getD i 0 ≠ p.getD j 0 := by
 have hs := h.size
 have e1 : p.getD i 0 = p.toList[i]'(by simpa using (by lia)) := by simp [Array.getD, show i < p.size by lia]
 have e2 : p.getD j 0 = p.toList[j]'(by simpa using (by lia)) := by simp [Array.getD, show j < p.size by lia]
 rw [e1, e2]
 intro e
 have z := List.pairwise_iff_getElem.mp h.nd
 rcases Nat.lt_or_gt_of_ne hne with q | q
 · exact z i j _ _ q e
 · exact z j i _ _ q e.symm
theorem Arr.of {p q : Array Nat} (h : Arr n p) (e : q.Perm p) : Arr n q := ⟨e.trans h.perm⟩
theorem gd (p : Array Nat) (i : Nat) : p.getD i 0 = (p[i]?).getD 0 := Array.getD_eq_getD_getElem?
noncomputable def Asc (lt : Nat → Nat → Bool) (p : Array Nat) (m : Nat) : Prop := ∀ i j, i < j → j < m → lt (p.getD i 0) (p.getD j 0) = true
theorem Asc.snoc {p : Array Nat} {m : Nat} (O : Ordn n lt) (h : Asc lt p m) (h1 : 1 ≤ m) (hl : lt (p.getD (m - 1) 0) (p.getD m 0) = true) : Asc lt p (m + 1) := fun i j hij hj => by
 by_cases e : j < m
 · exact h i j hij e
 · have : j = m := by lia
   subst this
   by_cases e2 : i = j - 1
   · rw [e2]; exact hl
   · exact O.tr _ _ _ (h i (j - 1) (by lia) (by lia)) hl
noncomputable def Desc (lt : Nat → Nat → Bool) (p : Array Nat) (m : Nat) : Prop := ∀ i j, i < j → j < m → lt (p.getD j 0) (p.getD i 0) = true
theorem Desc.snoc {p : Array Nat} {m : Nat} (O : Ordn n lt) (h : Desc lt p m) (h1 : 1 ≤ m) (hl : lt (p.getD m 0) (p.getD (m - 1) 0) = true) : Desc lt p (m + 1) := fun i j hij hj => by
 by_cases e : j < m
 · exact h i j hij e
 · have : j = m := by lia
   subst this
   by_cases e2 : i = j - 1
   · rw [e2]; exact hl
   · exact O.tr _ _ _ hl (h i (j - 1) (by lia) (by lia))
theorem Ordn.flip (O : Ordn n lt) {p : Array Nat} (a : Arr n p) {i j : Nat} (hi : i < n) (hj : j < n) (hne : i ≠ j) (h : lt (p.getD i 0) (p.getD j 0) = false) : lt (p.getD j 0) (p.getD i 0) = true := by
 rcases O.tot _ _ (a.below hi) (a.below hj) (a.inj hi hj hne) with q | q
 · rw [h] at q; cases q
 · exact q
theorem ascP {p : Array Nat} (O : Ordn n lt) (a : Arr n p) {Q : Nat → Prop} : ∀ (f m : Nat), 1 ≤ m → m + f ≤ n → Asc lt p m → (∀ m', m ≤ m' → m' ≤ m + f → Asc lt p m' → (m' = m + f ∨ lt (p.getD m' 0) (p.getD (m' - 1) 0) = true) → Q m') → pw n lt (kas_asc p f m) Q
 | 0, m, _, _, h, k => k m (Nat.le_refl _) (Nat.le_refl _) h (.inl rfl)
 | f + 1, m, h1, hn, h, k => by
  have e : m + 1 + f = m + (f + 1) := Nat.add_right_comm m 1 f
  have mn : m < n := Nat.lt_of_lt_of_le (Nat.lt_add_of_pos_right (Nat.succ_pos f)) hn
  have ml : m - 1 < m := Nat.sub_lt h1 Nat.one_pos
  have m1 : m - 1 < n := Nat.lt_trans ml mn
  refine ⟨a.below mn, a.below m1, ?_⟩
  cases q : lt (p.getD m 0) (p.getD (m - 1) 0) with
  | true => exact k m (Nat.le_refl _) (Nat.le_add_right ..) h (.inr q)
  | false =>
   refine ascP O a f (m + 1) (Nat.le_add_left ..) (e ▸ hn) (h.snoc O h1 ?_) fun m' a1 a2 a3 a4 => k m' (Nat.le_of_succ_le a1) (e ▸ a2) a3 (e ▸ a4)
   exact O.flip a mn m1 (Nat.ne_of_gt ml) q
theorem revArr {p : Array Nat} (a : Arr n p) (i j : Nat) : Arr n (kas_rev p i j) := a.of (mirror_perm _ _ _ _)
theorem revAsc {p : Array Nat} (a : Arr n p) {m : Nat} (hm : m ≤ n) (h : Desc lt p m) : Asc lt (kas_rev p 0 m) m := fun i j hij hj => by
 have hs : m ≤ p.size := a.size ▸ hm
 have e : 0 + m - 1 = m - 1 := congrArg (· - 1) (Nat.zero_add m)
 unfold kas_rev
 rw [gd, gd, getElem?_mirror_all hs, getElem?_mirror_all hs, if_pos ⟨Nat.zero_le _, Nat.lt_trans hij hj⟩, if_pos ⟨Nat.zero_le _, hj⟩, ← gd, ← gd, e]
 exact h _ _ (Nat.sub_lt_sub_left (Nat.lt_of_lt_of_le hij (Nat.le_sub_one_of_lt hj)) hij) (Nat.lt_of_le_of_lt (Nat.sub_le ..) (Nat.sub_lt (Nat.zero_lt_of_lt hj) Nat.one_pos))
theorem descP {p : Array Nat} (O : Ordn n lt) (a : Arr n p) {Q : Array Nat × Nat × Nat → Prop} : ∀ (f m : Nat), 1 ≤ m → m + f ≤ n → Desc lt p m → (∀ m', m ≤ m' → m' ≤ m + f → Desc lt p m' → Q (p, m', 0)) → pw n lt (kas_desc f p m 0) Q
 | 0, m, _, _, h, k => k m (Nat.le_refl _) (Nat.le_refl _) h
 | f + 1, m, h1, hn, h, k => by
  have e : m + 1 + f = m + (f + 1) := Nat.add_right_comm m 1 f
  have mn : m < n := Nat.lt_of_lt_of_le (Nat.lt_add_of_pos_right (Nat.succ_pos f)) hn
  have ml : m - 1 < m := Nat.sub_lt h1 Nat.one_pos
  have m1 : m - 1 < n := Nat.lt_trans ml mn
  refine ⟨a.below mn, a.below m1, ?_⟩
  cases q : lt (p.getD m 0) (p.getD (m - 1) 0) with
  | true => exact descP O a f (m + 1) (Nat.le_add_left ..) (e ▸ hn) (h.snoc O h1 q) fun m' a1 a2 a3 => k m' (Nat.le_of_succ_le a1) (e ▸ a2) a3
  | false =>
   refine ⟨a.below m1, a.below mn, ?_⟩
   rw [O.flip a mn m1 (Nat.ne_of_gt ml) q]
   exact k m (Nat.le_refl _) (Nat.le_add_right ..) h
theorem tail3P {p : Array Nat} (O : Ordn n lt) (a : Arr n p) {m : Nat} (h1 : 1 ≤ m) (hn : m ≤ n) (h : Desc lt p m) {Q : Nat × Array Nat → Prop} (k : ∀ m' p', 1 ≤ m' → m' ≤ n → Arr n p' → Asc lt p' m' → Q (m', p')) : pw n lt (kas_tail3 m n p) Q :=
 have e : m + (n - m) = n := Nat.add_sub_of_le hn
 pw_bind _ (ascP O (revArr a 0 m) (n - m) m h1 (Nat.le_of_eq e) (revAsc a hn h) fun m' a1 a2 a3 _ => k m' _ (Nat.le_trans h1 a1) (e ▸ a2) (revArr a 0 m) a3)
theorem countP {p : Array Nat} (O : Ordn n lt) (a : Arr n p) (h1 : 1 ≤ n) {Q : Nat × Array Nat → Prop} (k : ∀ m' p', 1 ≤ m' → m' ≤ n → Arr n p' → Asc lt p' m' → Q (m', p')) : pw n lt (kas_count n p) Q := by
 have z1 : Asc lt p 1 := fun i j hij hj => absurd (Nat.lt_of_lt_of_le hij (Nat.le_of_lt_succ hj)) (Nat.not_lt_zero i)
 have d1 : Desc lt p 1 := fun i j hij hj => absurd (Nat.lt_of_lt_of_le hij (Nat.le_of_lt_succ hj)) (Nat.not_lt_zero i)
 have en : 1 + (n - 1) = n := Nat.add_sub_of_le h1
 refine pw_bind _ (ascP O a (n - 1) 1 (Nat.le_refl _) (Nat.le_of_eq en) z1 fun m a1 a2 a3 a4 => ?_)
 rw [en] at a2 a4
 by_cases e : (m == n) = true
 · rw [if_pos e]
   exact k m p a1 a2 a a3
 · rw [if_neg e]
   have hmn : m ≠ n := fun q => e (by rw [q]; exact beq_self_eq_true _)
   by_cases e2 : m > 1
   · rw [if_pos e2]
     have ml : m - 1 < m := Nat.sub_lt a1 Nat.one_pos
     refine ⟨a.below (Nat.lt_of_lt_of_le a1 a2), a.below (Nat.lt_of_lt_of_le ml a2), ?_⟩
     rw [a3 0 (m - 1) (Nat.zero_lt_sub_of_lt e2) ml]
     exact k m p a1 a2 a a3
   · rw [if_neg e2]
     obtain rfl : m = 1 := Nat.le_antisymm (Nat.le_of_not_lt e2) a1
     have d2 : Desc lt p 2 := d1.snoc O (Nat.le_refl _) (a4.resolve_left hmn)
     have e3 : 2 + (n - 2) = n := Nat.add_sub_of_le (Nat.lt_of_le_of_ne a2 hmn)
     unfold kas_descPart
     refine pw_bind _ (descP O a (n - 2) 2 (Nat.le_succ 1) (Nat.le_of_eq e3) d2 fun m' b1 b2 b3 => ?_)
     show pw n lt (kas_tail3 m' n p) _
     exact tail3P O a (Nat.le_of_succ_le b1) (e3 ▸ b2) b3 k
theorem placeP {p : Array Nat} (O : Ordn n lt) (a : Arr n p) {k : Nat} (hk : k < n) (hs : Asc lt p k) {Q : Nat → Prop} (kk : ∀ l, l ≤ k → (∀ i, i < l → lt (p.getD i 0) (p.getD k 0) = true) → (∀ i, l ≤ i → i < k → lt (p.getD k 0) (p.getD i 0) = true) → Q l) :
 ∀ (f l r : Nat), l ≤ r → r ≤ k → r ≤ f + l → (∀ i, i < l → lt (p.getD i 0) (p.getD k 0) = true) → (∀ i, r ≤ i → i < k → lt (p.getD k 0) (p.getD i 0) = true) → pw n lt (kas_place p k f l r) Q
 | 0, l, r, h1, h2, h3, h4, h5 => by
  obtain rfl : l = r := Nat.le_antisymm h1 (Nat.zero_add l ▸ h3)
  exact kk l h2 h4 h5
 | f + 1, l, r, h1, h2, h3, h4, h5 => by
  unfold kas_place
  by_cases e : l ≥ r
  · obtain rfl : l = r := Nat.le_antisymm h1 e
    rw [if_pos e]
    exact kk l h2 h4 h5
  · rw [if_neg e]
    have hlr : l < r := Nat.lt_of_not_ge e
    have m1 : l ≤ (l + r) / 2 := (Nat.le_div_iff_mul_le Nat.two_pos).mpr (by rw [Nat.mul_two]; exact Nat.add_le_add_left h1 l)
    have m2 : (l + r) / 2 < r := Nat.div_lt_of_lt_mul (by rw [Nat.two_mul]; exact Nat.add_lt_add_right hlr r)
    generalize (l + r) / 2 = md at m1 m2 ⊢
    have h6 : r ≤ f + l + 1 := Nat.add_right_comm f 1 l ▸ h3
    have mk : md < k := Nat.lt_of_lt_of_le m2 h2
    have mn : md < n := Nat.lt_trans mk hk
    refine ⟨a.below hk, a.below mn, ?_⟩
    cases q : lt (p.getD k 0) (p.getD md 0) with
    | true =>
     show pw n lt (kas_place p k f l md) Q
     refine placeP O a hk hs kk f l md m1 (Nat.le_of_lt mk) (Nat.le_of_lt_succ (Nat.lt_of_lt_of_le m2 h6)) h4 fun i b1 b2 => ?_
     by_cases e2 : i = md
     · rw [e2]; exact q
     · exact O.tr _ _ _ q (hs _ _ (Nat.lt_of_le_of_ne b1 (Ne.symm e2)) b2)
    | false =>
     show pw n lt (kas_place p k f (md + 1) r) Q
     have q' := O.flip a hk mn (Nat.ne_of_gt mk) q
     refine placeP O a hk hs kk f (md + 1) r m2 h2 (Nat.le_trans h6 (Nat.succ_le_succ (Nat.add_le_add_left m1 f))) (fun i b1 => ?_) h5
     by_cases e2 : i = md
     · rw [e2]; exact q'
     · exact O.tr _ _ _ (hs i md (Nat.lt_of_le_of_ne (Nat.le_of_lt_succ b1) e2) mk) q'
theorem bubAsc {p : Array Nat} (a : Arr n p) {k l : Nat} (hk : k < n) (hl : l ≤ k) (hs : Asc lt p k) (h4 : ∀ i, i < l → lt (p.getD i 0) (p.getD k 0) = true) (h5 : ∀ i, l ≤ i → i < k → lt (p.getD k 0) (p.getD i 0) = true) : Asc lt (bubble p k (k - l)) (k + 1) := fun i j hij hj => by
 have e : ∀ i, (bubble p k (k - l)).getD i 0 = if i = l then p.getD k 0 else if l < i ∧ i ≤ k then p.getD (i - 1) 0 else p.getD i 0 := fun i => by
  rw [gd, getElem?_bubble (a.size.symm ▸ hk) _ (Nat.sub_le k l), Nat.sub_sub_self hl]
  split
  · exact (gd ..).symm
  · split
    · exact (gd ..).symm
    · exact (gd ..).symm
 have jk : j ≤ k := Nat.le_of_lt_succ hj
 have j1k : j - 1 < k := Nat.lt_of_lt_of_le (Nat.sub_lt (Nat.zero_lt_of_lt hij) Nat.one_pos) jk
 rw [e i, e j]
 by_cases i1 : i = l
 · have lj : l < j := i1 ▸ hij
   rw [if_pos i1, if_neg (Nat.ne_of_gt lj), if_pos ⟨lj, jk⟩]
   exact h5 _ (Nat.le_sub_one_of_lt lj) j1k
 · rw [if_neg i1]
   by_cases i2 : l < i ∧ i ≤ k
   · have lj : l < j := Nat.lt_trans i2.1 hij
     rw [if_pos i2, if_neg (Nat.ne_of_gt lj), if_pos ⟨lj, jk⟩]
     exact hs _ _ (Nat.sub_lt_sub_right (Nat.zero_lt_of_lt i2.1) hij) j1k
   · rw [if_neg i2]
     have hil : i < l := Nat.lt_of_le_of_ne (Nat.le_of_not_lt fun h => i2 ⟨h, Nat.le_trans (Nat.le_of_lt hij) jk⟩) i1
     by_cases j1 : j = l
     · rw [if_pos j1]; exact h4 _ hil
     · rw [if_neg j1]
       by_cases j2 : l < j ∧ j ≤ k
       · rw [if_pos j2]; exact hs _ _ (Nat.lt_of_lt_of_le hil (Nat.le_sub_one_of_lt j2.1)) j1k
       · rw [if_neg j2]; exact hs _ _ hij (Nat.lt_of_le_of_ne jk fun h => j2 ⟨h ▸ Nat.lt_of_le_of_ne hl fun h2 => j1 (h.trans h2.symm), jk⟩)
theorem binP (O : Ordn n lt) {Q : Array Nat → Prop} (kk : ∀ p, Arr n p → Asc lt p n → Q p) : ∀ (f : Nat) (p : Array Nat) (k : Nat), Arr n p → k + f = n → Asc lt p k → pw n lt (kas_bin f p k) Q
 | 0, p, k, a, e, h => kk p a (by rw [← e]; exact h)
 | f + 1, p, k, a, e, h => pw_bind _ (placeP O a (by lia) h (fun l hl h4 h5 => binP O kk f _ (k + 1) (a.of (bubble_perm ..)) (by lia) (bubAsc a (by lia) hl h h4 h5)) k 0 k (Nat.zero_le _) (Nat.le_refl _) (Nat.le_refl k) (fun i hi => absurd hi (Nat.not_lt_zero i)) fun i h1 h2 => absurd h2 (Nat.not_lt.mpr h1))
theorem sortP (O : Ordn n lt) (h1 : 1 ≤ n) {Q : Array Nat → Prop} (kk : ∀ p, Arr n p → Asc lt p n → Q p) : pw n lt (kas_sort n) Q := by
 unfold kas_sort
 refine pw_bind _ (countP O ⟨Array.Perm.refl _⟩ h1 fun m p hm hn a h => ?_)
 by_cases e : m < n
 · show pw n lt (if m < n then kas_bin (n - max m 1) p (max m 1) else .ret p) Q
   rw [if_pos e, show max m 1 = m by lia]
   exact binP O kk (n - m) p m a (by lia) h
 · show pw n lt (if m < n then kas_bin (n - max m 1) p (max m 1) else .ret p) Q
   rw [if_neg e]
   have : m = n := by lia
   subst this
   exact kk p a h
end
noncomputable def sLt (a b : Str) : Bool := decide (a.cps.toList < b.cps.toList)
theorem sLt_asy {a b : Str} (h : sLt a b = true) : sLt b a = false := by
 unfold sLt at *
 simp only [decide_eq_true_eq, decide_eq_false_iff_not] at *
 exact fun q => List.lt_irrefl _ (List.lt_trans h q)
theorem sLt_tr {a b c : Str} (h : sLt a b = true) (h2 : sLt b c = true) : sLt a c = true := by
 unfold sLt at *
 simp only [decide_eq_true_eq] at *
 exact List.lt_trans h h2
theorem sLt_tot {a b : Str} (h : a ≠ b) : sLt a b = true ∨ sLt b a = true := by
 unfold sLt
 simp only [decide_eq_true_eq]
 by_cases q : a.cps.toList < b.cps.toList
 · exact .inl q
 · by_cases q2 : b.cps.toList < a.cps.toList
   · exact .inr q2
   · exact absurd (Str.ext' (Array.toList_inj.mp (List.le_antisymm (List.not_lt.mp q2) (List.not_lt.mp q)))) h
theorem sLt_irr (a : Str) : sLt a a = false := by
 unfold sLt
 simp only [decide_eq_false_iff_not]
 exact List.lt_irrefl _
noncomputable def lLt : List Str → List Str → Bool
 | [], [] => false
 | [], _ :: _ => true
 | _ :: _, [] => false
 | x :: xs, y :: ys => if x = y then lLt xs ys else sLt x y
theorem lLt_asy : ∀ {a b : List Str}, lLt a b = true → lLt b a = false
 | [], [], h => by cases h
 | [], _ :: _, _ => rfl
 | _ :: _, [], h => by cases h
 | x :: xs, y :: ys, h => by
  unfold lLt at *
  by_cases e : x = y
  · subst e
    rw [if_pos rfl] at *
    exact lLt_asy h
  · rw [if_neg e] at h
    rw [if_neg (Ne.symm e)]
    exact sLt_asy h
theorem lLt_tot : ∀ {a b : List Str}, a ≠ b → lLt a b = true ∨ lLt b a = true
 | [], [], h => absurd rfl h
 | [], _ :: _, _ => .inl rfl
 | _ :: _, [], h => .inr rfl
 | x :: xs, y :: ys, h => by
  unfold lLt
  by_cases e : x = y
  · subst e
    rw [if_pos rfl, if_pos rfl]
    exact lLt_tot fun q => h (by rw [q])
  · rw [if_neg e, if_neg (Ne.symm e)]
    exact sLt_tot e
theorem lLt_tr : ∀ {a b c : List Str}, lLt a b = true → lLt b c = true → lLt a c = true
 | [], [], _, h, _ => by cases h
 | [], _ :: _, [], _, h => by cases h
 | [], _ :: _, _ :: _, _, _ => rfl
 | _ :: _, [], _, h, _ => by cases h
 | _ :: _, _ :: _, [], _, h => by cases h
 | x :: xs, y :: ys, z :: zs, h, h2 => by
  unfold lLt at *
  by_cases e : x = y
  · subst e
    rw [if_pos rfl] at h
    by_cases e2 : x = z
    · subst e2
      rw [if_pos rfl] at *
      exact lLt_tr h h2
    · rw [if_neg e2] at *
      exact h2
  · rw [if_neg e] at h
    by_cases e2 : y = z
    · subst e2
      rw [if_neg e]
      exact h
    · rw [if_neg e2] at h2
      have h3 := sLt_tr h h2
      have e3 : x ≠ z := fun q => by rw [q, sLt_irr] at h3; cases h3
      rw [if_neg e3]
      exact h3
noncomputable def ins {α : Type} (key : α → List Str) (x : α) : List α → List α
 | [] => [x]
 | y :: r => if lLt (key y) (key x) = true then y :: ins key x r else x :: y :: r
noncomputable def lsort {α : Type} (key : α → List Str) : List α → List α
 | [] => []
 | x :: r => ins key x (lsort key r)
noncomputable def Up2 {α : Type} (key : α → List Str) (l : List α) : Prop := l.Pairwise fun a b => lLt (key a) (key b) = true
section
variable {α : Type} {key : α → List Str}
theorem ins_perm (x : α) : ∀ l, (ins key x l).Perm (x :: l)
 | [] => .refl _
 | y :: r => by
  unfold ins
  split
  · exact ((ins_perm x r).cons y).trans (List.Perm.swap ..)
  · exact .refl _
theorem lsort_perm : ∀ l : List α, (lsort key l).Perm l
 | [] => .refl _
 | x :: r => (ins_perm x _).trans ((lsort_perm r).cons x)
theorem ins_up (x : α) : ∀ {l : List α}, Up2 key l → (∀ y ∈ l, key y ≠ key x) → Up2 key (ins key x l)
 | [], _, _ => by unfold ins Up2; simp
 | y :: r, h, hn => by
  unfold ins
  have h' := List.pairwise_cons.mp h
  split
  · rename_i q
    refine List.pairwise_cons.mpr ⟨fun z hz => ?_, ins_up x h'.2 fun z hz => hn z (.tail _ hz)⟩
    rcases List.mem_cons.mp ((ins_perm x r).subset hz) with e | e
    · rw [e]; exact q
    · exact h'.1 z e
  · rename_i q
    have q2 : lLt (key x) (key y) = true := by
     rcases lLt_tot (hn y (.head _)) with z | z
     · exact absurd z q
     · exact z
    refine List.pairwise_cons.mpr ⟨fun z hz => ?_, h⟩
    rcases List.mem_cons.mp hz with e | e
    · rw [e]; exact q2
    · exact lLt_tr q2 (h'.1 z e)
theorem lsort_up : ∀ {l : List α}, (l.map key).Nodup → Up2 key (lsort key l)
 | [], _ => List.Pairwise.nil
 | x :: r, h => by
  rw [List.map_cons, List.nodup_cons] at h
  refine ins_up x (lsort_up h.2) fun y hy e => h.1 ?_
  rw [← e]
  exact List.mem_map_of_mem ((lsort_perm r).subset hy)
theorem up_uniq : ∀ {a b : List α}, a.Perm b → Up2 key a → Up2 key b → a = b
 | [], b, p, _, _ => (List.nil_perm.mp p).symm
 | x :: a, [], p, _, _ => absurd p.length_eq (by simp)
 | x :: a, y :: b, p, ha, hb => by
  have ha' := List.pairwise_cons.mp ha
  have hb' := List.pairwise_cons.mp hb
  have e : x = y := by
   rcases List.mem_cons.mp (p.subset (.head _)) with e | e
   · exact e
   · rcases List.mem_cons.mp (p.symm.subset (.head _)) with e2 | e2
     · exact e2.symm
     · have z1 := hb'.1 x e
       have z2 := ha'.1 y e2
       rw [lLt_asy z1] at z2; cases z2
  subst e
  rw [up_uniq (List.perm_cons x |>.mp p) ha'.2 hb'.2]
theorem lsort_of {l l' : List α} (p : l'.Perm l) (h : Up2 key l') : l' = lsort key l := by
 refine up_uniq (p.trans (lsort_perm l).symm) h (lsort_up ?_)
 refine ((p.map key).nodup_iff).mp ?_
 rw [List.nodup_iff_pairwise_ne, List.pairwise_map]
 exact h.imp fun {a b} z e => by rw [e] at z; rw [lLt_asy z] at z; cases z
end
theorem ordn_of {α : Type} {l : List α} (key : α → List Str) (d : α) (h : (l.map key).Nodup) : Ordn l.length (fun i j => lLt (key (l.getD i d)) (key (l.getD j d))) where
 asy := fun i j q => lLt_asy q
 tr := fun i j k q1 q2 => lLt_tr q1 q2
 tot := fun i j hi hj hne => lLt_tot fun e => by
  have z := List.pairwise_iff_getElem.mp h
  have e1 : ∀ k (hk : k < l.length), key (l.getD k d) = (l.map key)[k]'(by simpa using hk) := fun k hk => by simp [hk]
  rw [e1 i hi, e1 j hj] at e
  rcases Nat.lt_or_gt_of_ne hne with q | q
  · exact z i j _ _ q e
  · exact z j i _ _ q e.symm
theorem arr_out {α : Type} {l : List α} (key : α → List Str) (d : α) {p : Array Nat} (a : Arr l.length p) (h : Asc (fun i j => lLt (key (l.getD i d)) (key (l.getD j d))) p l.length) : p.toList.map (fun i => l.getD i d) = lsort key l := by
 refine lsort_of ?_ ?_
 · have e : l = (List.range l.length).map fun i => l.getD i d := by
    apply List.ext_getElem
    · simp
    · intro i h1 h2
      simp [h1]
   have := (Array.perm_iff_toList_perm.mp a.perm).map fun i => l.getD i d
   simp only [List.toList_toArray] at this
   rw [← e] at this
   exact this
 · refine List.pairwise_map.mpr (List.pairwise_iff_getElem.mpr fun i j hi hj hij => ?_)
   have hz := a.size
   have := h i j hij (by simpa [hz] using hj)
   have e : ∀ k (hk : k < p.toList.length), p.getD k 0 = p.toList[k] := fun k hk => by
    have : k < p.size := by simpa using hk
    simp [Array.getD, this]
   rw [e i hi, e j hj] at this
   exact this
noncomputable abbrev bjO (sep : Str) (t : Tok) : Obj := { cls := .type "builtin_function_or_method", data := .fields #[.builtin "str.join", .str sep t] }
theorem sub_str_module : isSubtype (.type "str") (.type "module") = pure false := by rw [isSubtype_type]; kernel_rfl
section
variable {prog : Program} {w : World} {A : Around} {E : Value → Shared → Prop} {s s' : Shared} {B : Heap} {os : OsState} {G : Array GenState} {L : Addr} {m : Str → Option Value} {news : List Cell}
theorem bjCall {b D : Addr} {sep : Str} {t : Tok} {Q : Value → Shared → Prop} (hb' : s.heap.get? b = some (bjO sep t))
 (h : codeAny (model prog w) A (.builtin "str.join" ⟨[.str sep t, .ref D], []⟩) (wants Q E) s) : wpAny (model prog w) A (call (.ref b) [.ref D]) Q E s := by
 refine wpAny_call (codeAny_of_tree ?_)
 show wpAny _ A.in1 (callAny (.ref b) ⟨[.ref D], []⟩) _ _ s
 simp only [callAny]
 refine wpAny_bind (wpAny_load hb' ?_)
 simp only [show (Value.type "builtin_function_or_method" == Value.type "method" || Value.type "builtin_function_or_method" == Value.type "builtin_function_or_method" || Value.type "builtin_function_or_method" == Value.type "method-wrapper") = true by decide, if_true]
 refine KFB.if_so (by decide) ?_
 show wpAny _ _ (checkBoundCall "str.join" ⟨[.str sep t, .ref D], []⟩ >>= fun _ => again (.builtin "str.join" ⟨[.str sep t, .ref D], []⟩)) _ _ _
 refine wpAny_bind ?_
 have f1 := sub_str_module
 repeat (any_goals (first | assumption | wp_step))
 exact ⟨Code.quiet_builtin _ (by decide +kernel), h⟩
theorem joinS {b D : Addr} {sep : Str} {t : Tok} {l : List (Str × Tok)} {n : Nat} {Q : Value → Shared → Prop} (S : St B os G L m news s) (hb' : s.heap.get? b = some (bjO sep t)) (hD : (D, listOf (strValues l).toArray n) ∈ news)
 (hok : JoinOk sep (l.map (·.1)) = true) (h : ∀ t' s', St B os G L m news s' → Q (.str (Txt.join sep (l.map (·.1))) t') s') : wpAny (model prog w) A (call (.ref b) [.ref D]) Q E s := by
 refine bjCall hb' (codeAny_builtin PySem.F.entry_str_join ?_)
 refine meets_str_join_list sep t D l (by simpa [JoinOk] using hok) prog w A (wants Q E) s ⟨⟨_, S.get hD, rfl, n, rfl⟩, ?_⟩
 exact post_join l ⟨joinOk_length hok, fun t' k => h _ _ S.tk⟩
end
section
open PyProof.Rows.TI
section
variable {prog : Program} {w : World} {A : Around} {E : Value → Shared → Prop} {s s' : Shared} {B : Heap} {os : OsState} {G : Array GenState} {L : Addr} {m : Str → Option Value} {fc news : List Cell} {K : Frag} {outer : List Env} {fm : List FMap} {e : Addr}
end
end
noncomputable abbrev instO (C d : Addr) : Obj := ⟨.ref C, some d, .plain, #[]⟩
noncomputable abbrev txt (s : String) : Str := Str.ofString s
theorem put_ne {am : Str → Option Value} {name y : Str} {v : Value} {r : Option Value} (h : am y = r) (hn : ¬ y = name) : (updM am name v) y = r := by
 show (if y = name then some v else am y) = r
 rw [if_neg hn]; exact h
theorem put_eq {am : Str → Option Value} {name : Str} {v : Value} : (updM am name v) name = some v := if_pos rfl
noncomputable def OutIs (vs : List Value) (l : List Str) : Prop := ∃ ps : List (Str × Tok), vs = strValues ps ∧ ps.map (·.1) = l
theorem OutIs.snoc {vs : List Value} {l : List Str} (h : OutIs vs l) (x : Str) (t : Tok) : OutIs (vs ++ [.str x t]) (l ++ [x]) := by
 obtain ⟨ps, rfl, rfl⟩ := h
 exact ⟨ps ++ [(x, t)], by simp [strValues], by simp⟩
theorem OutIs.length {vs : List Value} {l : List Str} (h : OutIs vs l) : vs.length = l.length := by
 obtain ⟨ps, rfl, rfl⟩ := h
 simp [strValues]
section
variable {B : Heap} {os : OsState} {G : Array GenState} {L : Addr} {m : Str → Option Value} {s : Shared}
theorem St.sink {c : Cell} {W r : List Cell} (S : St B os G L m (c :: (W ++ r)) s) : St B os G L m (W ++ (c :: r)) s := S.perm List.perm_middle.symm
theorem St.rise {c : Cell} {W r : List Cell} (S : St B os G L m (W ++ (c :: r)) s) : St B os G L m (c :: (W ++ r)) s := S.perm List.perm_middle
end
theorem if_true' {c : Bool} {α : Sort _} {a b : α} (h : c = true) : (if c = true then a else b) = a := if_pos h
theorem ifT {c : Bool} {a b : Prop} (h : c = true) (x : a) : if c = true then a else b := by rw [if_pos h]; exact x
theorem ifF {c : Bool} {a b : Prop} (h : c = false) (x : b) : if c = true then a else b := by rw [if_neg (by rw [h]; decide)]; exact x
section
variable {prog : Program} {w : World} {A : Around} {E : Value → Shared → Prop} {s s' : Shared} {B : Heap} {os : OsState} {G : Array GenState} {L : Addr} {m : Str → Option Value} {news news' : List Cell}
theorem appM {D : Addr} {its : Array Value} {n : Nat} {pl : Sem Bool} {Q : Value × List Value → Shared → Prop} (S : St B os G L m news s) (hl : (D, listOf its n) ∈ news) (h : Q (.builtin "list.append", [.ref D]) s) : wpAny (model prog w) A (getMethod (.ref D) "append" pl) Q E s :=
 listMethod_K S.N hl PySem.F.slot_list_append PySem.F.type_list_append h
theorem appendS {D : Addr} {its : Array Value} {n : Nat} {v : Value} {Q : Value → Shared → Prop} (S : St B os G L m news s) (U : Up D (listOf its n) (listOf (its.push v) (n + 1)) news news') (h : ∀ s', St B os G L m news' s' → Q .none s') (hsz : its.size ≤ sizeLine := by size_fits) :
 wpAny (model prog w) A (call (.builtin "list.append") [.ref D, v]) Q E s :=
 append_K S.F S.N (U.upd S.nd) (fun h' F' N' => h _ (S.to (s' := { s with heap := h' }) F' N' U.keys)) hsz
theorem appendL {D : Addr} {l : List Value} {n : Nat} {v : Value} {Q : Value → Shared → Prop} (S : St B os G L m news s) (U : Up D (listOf l.toArray n) (listOf (l ++ [v]).toArray (n + 1)) news news') (h : ∀ s', St B os G L m news' s' → Q .none s') (hsz : l.length < 100000) :
 wpAny (model prog w) A (call (.builtin "list.append") [.ref D, v]) Q E s :=
 appendS S (by rw [List.push_toArray]; exact U) h (by rw [PySem.sizeLine_eq, List.size_toArray]; lia)
theorem bmCallL {b D : Addr} {l : List Value} {n : Nat} {v : Value} {Q : Value → Shared → Prop} (S : St B os G L m news s) (hb : (b, bmO D) ∈ news) (U : Up D (listOf l.toArray n) (listOf (l ++ [v]).toArray (n + 1)) news news')
 (h : ∀ s', St B os G L m news' s' → Q .none s') (hsz : l.length < 100000) : wpAny (model prog w) A (call (.ref b) [v]) Q E s :=
 bmCallS S hb (by rw [List.push_toArray]; exact U) h (by rw [PySem.sizeLine_eq, List.size_toArray]; lia)
end
theorem lk_slice_index : typeLookup (.type "slice") "__index__" = pure none := by rw [typeLookup_type, builtinLookup_eq_fast]; kernel_rfl
noncomputable abbrev sliO : Obj := { cls := .type "slice", data := .fields #[.none, .none, .none] }
section
variable {prog : Program} {w : World} {A : Around} {E : Value → Shared → Prop} {h : Heap} {g : Array GenState} {d : Drawn} {t : Nat} {os : OsState} {a : Addr} {o : Obj}
set_option maxHeartbeats 1000000 in
theorem delAll_tree {D sl : Addr} {its : Array Value} {n : Nat} {Q : Fin → Shared → Prop} (hD : h.get? D = some (listOf its n)) (hs : h.get? sl = some sliO) (hsz : its.size ≤ sizeLine)
 (hq : ∀ f : Array Value → Array Value, f its = #[] → Q (.done (.ret .none)) ⟨h.update D (Obj.mapSeq f), g, d, t, os⟩) :
 wpAny (model prog w) A (Builtin.«list.__delitem__» ⟨[.ref D, .ref sl], []⟩) Q E ⟨h, g, d, t, os⟩ := by
 have hT : (⟨h, g, d, t, os⟩ : Shared).TypeIs (.ref D) "list" := ⟨_, hD, rfl⟩
 have hT2 : (⟨h, g, d, t, os⟩ : Shared).TypeIs (.ref sl) "slice" := ⟨_, hs, rfl⟩
 have f1 := lk_slice_index
 have hdd : (listOf its n).data = .seq its n := rfl
 repeat (any_goals (first | assumption | (with_reducible refine wpAny_updateSeq hD hdd ?_ hsz ?side) | wp_step))
 case side =>
  show (List.filterMap _ _).toArray.size ≤ _
  rw [List.size_toArray]
  refine Nat.le_trans (List.length_filterMap_le _ _) ?_
  rw [List.length_zipIdx, Array.length_toList]
  exact Nat.le_succ_of_le hsz
 all_goals
  refine hq _ ?_
  show (List.filterMap _ _).toArray = #[]
  rw [List.filterMap_eq_nil_iff.mpr]
  rintro ⟨x, k⟩ hk
  refine if_pos ?_
  have hk' : k < its.size := by
   have := List.mem_zipIdx hk
   simp at this
   lia
  show (if (1 : Int) > 0 then _ else _) = true
  rw [if_pos (by decide), if_pos (by decide)]
  simp
  lia
end
section
variable {prog : Program} {w : World} {A : Around} {E : Value → Shared → Prop} {s s' : Shared} {B : Heap} {os : OsState} {G : Array GenState} {L : Addr} {m : Str → Option Value} {news news' : List Cell} {K : Frag} {env : Env}
theorem sliceS {p : Pos} {Q : Value → Shared → Prop} (S : St B os G L m news s) (h : ∀ a s', St B os G L m ((a, sliO) :: news) s' → Q (.ref a) s') : wpAny (model prog w) A (eval (.Slice none none none p) env) Q E s :=
 wpAny_Slice (wpAny_pure (wpAny_pure (wpAny_pure (h _ _ (S.push (t := s.toks) sliO)))))
theorem mapSeq_any (f : Array Value → Array Value) (its : Array Value) (n : Nat) : ∃ n', Obj.mapSeq f (listOf its n) = listOf (f its) n' := ⟨if ((f its).size == its.size) = true then n else n + 1, by simp only [Obj.mapSeq]⟩
theorem delAllS {D sl : Addr} {its : Array Value} {n : Nat} {news' : Nat → List Cell} {Q : Unit → Shared → Prop} (S : St B os G L m news s) (hs : (sl, sliO) ∈ news) (U : ∀ n', Up D (listOf its n) (listOf #[] n') news (news' n')) (hsz : its.size ≤ sizeLine)
 (h : ∀ n' s', St B os G L m (news' n') s' → Q () s') : wpAny (model prog w) A (delItem (.ref D) (.ref sl)) Q E s := by
 have hD := S.get (U 0).mem
 obtain ⟨hp, g, d, t, o⟩ := s
 refine wpAny_delItem_slot (T := "list") ⟨_, hD, rfl⟩ (by decide) PySem.F.slot_list_delitem ?_
 refine wpAny_call_entry PySem.F.slot_list_delitem ⟨_, hD, rfl⟩ PySem.F.entry_list_delitem ?_ (PySem.F.args_list_delitem_2 _ _)
 refine delAll_tree hD (S.get hs) hsz (fun f hf => ?_)
 obtain ⟨n', e⟩ := mapSeq_any f its n
 rw [hf] at e
 exact ⟨_, rfl, h n' _ (S.same (t := t) (U n') (Heap.SameBut.update ..) (by rw [Heap.get?_update_self _ hD (by rw [e]; rfl), e]))⟩
theorem lastS {value slice : PySem.Expr} {D : Addr} {l : List Value} {x : Value} {n : Nat} {u : Tok} {Q : Value → Shared → Prop} (S : St B os G L m news s) (hl : (D, listOf (l ++ [x]).toArray n) ∈ news) (h : Q x s)
 (hs : subscripted slice false (.ref D) (.int (-1) u) = operate [.ref D, .int (-1) u] (getItem (.ref D) (.int (-1) u)) := by with_unfolding_all rfl) : wpAny (model prog w) A (subscriptTail value slice (.ref D) (.int (-1) u)) Q E s := by
 refine subscriptTail_builtinR (listOf_isList (S.get hl)).typeIs slot_list_getitem.lookup (wpAny_getItem_list_neg (Q := fun r s' => r = x ∧ Q r s') (listOf_isList (S.get hl)) (by decide) (by simp; lia) (by decide) ?_ ⟨rfl, h⟩) hs
 simp only [List.size_toArray, List.length_append, List.length_cons, List.length_nil]
 have : ((-1 : Int) + ((l.length + (0 + 1) : Nat) : Int)).toNat = l.length := by lia
 rw [this]
 simp
theorem deleteOne {tg : PySem.Expr} {Q : Unit → Shared → Prop} (h : wpAny (model prog w) A (delete tg env) Q E s) : wpAny (model prog w) A (deleteEach [tg] env) Q E s := by
 rw [arm_deleteEach_cons]
 exact wpAny_bind (wpAny_mono h (fun _ _ z => by rw [arm_deleteEach_nil]; exact wpAny_pure z) fun _ _ z => z)
theorem stmt_cut {st : Stmt} {rs : List Stmt} {Q : Flow → Shared → Prop} (I : Shared → Prop) (h : wpAny (model prog w) A (exec st env) (fun f s => f = .next ∧ I s) E s) (k : ∀ s, I s → wpAny (model prog w) A (execs rs env) Q E s) : wpAny (model prog w) A (execs (st :: rs) env) Q E s := by
 refine wpAny_execs_cons (wpAny_mono h ?_ fun _ _ z => z)
 rintro f s ⟨rfl, hI⟩
 exact k s hI
theorem minus1 {p1 p2 : Pos} {k : Nat} {Q : Value → Shared → Prop} (S : St B os G L m news s) (h : ∀ t s', St B os G L m news s' → Q (.int (-1) t) s') : wpAny (model prog w) A (eval (.UnaryOp .USub (.Constant (.int 1) k p1) p2) env) Q E s :=
 wpAny_UnaryOp (wpAny_Constant_int (PySem.P.neg_int (h _ _ S.tk)))
theorem valM {x C dx : Addr} {od : Obj} {sl : Array (Option Value)} {am : Str → Option Value} {name : Str} {v : Value} {pl : Sem Bool} {Q : Value × List Value → Shared → Prop} (S : St B os G L m news s) (X : K.In B)
 (hx : (x, (⟨.ref C, some dx, .plain, sl⟩ : Obj)) ∈ news) (hd : (dx, od) ∈ news) (ho : NsO od am) (hg : plainGet K C name = true) (hh : hasDictIn K C = true) (ha : findIn K (.ref C) name = some none)
 (hv : am name = some v) (hv' : handedIn v = true) (h : ∀ s', St B os G L m news s' → Q (v, []) s') : wpAny (model prog w) A (getMethod (.ref x) name pl) Q E s :=
 method_usual (S.X X) (InstAt.of_news S.N hx hd) (plainGet_of hg).1 (plainGet_of hg).2 ha rfl (attrS S X hx hd ho hg hh ha rfl hv hv' h)
theorem str_len0 {x : Str} : ((x.length : Int) != 0) = !decide (x = ofString "") := by
 by_cases h : x = ofString ""
 · subst h; rfl
 · have : x.length ≠ 0 := by
    intro e
    apply h
    cases x with
    | mk a =>
     have e' : a.size = 0 := e
     have := Array.eq_empty_of_size_eq_zero e'
     subst this; rfl
   simp [h]
   lia
end
section
variable {prog : Program} {w : World} {A : Around} {E : Value → Shared → Prop} {s s' : Shared} {B : Heap} {os : OsState} {G : Array GenState} {L : Addr} {m : Str → Option Value} {news news' : List Cell} {K : Frag}
theorem kl_last_snoc (p : List Value) (y : Value) : kl_last (p ++ [y]) = some (p, y) := by
 induction p with
 | nil => rfl
 | cons x r ih =>
  show kl_last (x :: (r ++ [y])) = _
  unfold kl_last
  rw [ih]
theorem popM {D : Addr} {its : Array Value} {n : Nat} {pl : Sem Bool} {Q : Value × List Value → Shared → Prop} (S : St B os G L m news s) (hl : (D, listOf its n) ∈ news) (h : Q (.builtin "list.pop", [.ref D]) s) : wpAny (model prog w) A (getMethod (.ref D) "pop" pl) Q E s :=
 kl_method S.N hl PySem.F.slot_list_pop PySem.F.type_list_pop h
theorem popL {D : Addr} {p : List Value} {y : Value} {n : Nat} {Q : Value → Shared → Prop} (S : St B os G L m news s) (U : Up D (listOf (p ++ [y]).toArray n) (listOf p.toArray (n + 1)) news news') (hz : p.length < 100000)
 (h : ∀ s', St B os G L m news' s' → Q y s') : wpAny (model prog w) A (call (.builtin "list.pop") [.ref D]) Q E s :=
 kl_pop (its := (p ++ [y]).toArray) S.F S.N (kl_last_snoc p y) (U.upd S.nd) (by simp [PySem.sizeLine_eq]; lia) (fun h' F' N' => h _ (S.to (s' := { s with heap := h' }) F' N' U.keys))
theorem popE {D : Addr} {l p : List Value} {y : Value} {n : Nat} {Q : Value → Shared → Prop} (S : St B os G L m news s) (he : l = p ++ [y]) (U : Up D (listOf l.toArray n) (listOf p.toArray (n + 1)) news news') (hz : p.length < 100000)
 (h : ∀ s', St B os G L m news' s' → Q y s') : wpAny (model prog w) A (call (.builtin "list.pop") [.ref D]) Q E s := by
 subst he
 exact popL S U hz h
theorem tupItem {value slice : PySem.Expr} {t : Addr} {items : Array Value} {i : Nat} {u : Tok} {x : Value} {Q : Value → Shared → Prop} (S : St B os G L m news s) (ht : (t, tupO items) ∈ news) (hi : items[i]? = some x) (h : Q x s)
 (hs : subscripted slice false (.ref t) (.int i u) = operate [.ref t, .int i u] (getItem (.ref t) (.int i u)) := by with_unfolding_all rfl) (hfit : i < 1000 := by decide) : wpAny (model prog w) A (subscriptTail value slice (.ref t) (.int i u)) Q E s := by
 have hlt : i < items.size := (Array.getElem?_eq_some_iff.mp hi).1
 refine subscriptTail_builtinR (T := "tuple") ⟨_, S.get ht, rfl⟩ slot_tuple_getitem.lookup (PyProof.Rows.getItem_tuple (Q := fun r s' => r = x ∧ Q r s') (j := i) ⟨_, S.get ht, rfl, 0, rfl⟩ (by lia) (by lia) ?_ hi ⟨rfl, h⟩) hs
 unfold seqIndex?
 simp
 lia
theorem lenL {D : Addr} {l : List Value} {n : Nat} {Q : Value → Shared → Prop} (S : St B os G L m news s) (hl : (D, listOf l.toArray n) ∈ news) (hz : l.length < 1000000) (h : ∀ t s', St B os G L m news s' → Q (.int l.length t) s') : wpAny (model prog w) A (call (.builtin "len") [.ref D]) Q E s :=
 PyProof.Rows.len_list (listOf_isList (S.get hl)) (by simp; lia) (by rw [List.size_toArray]; exact h _ _ S.tk)
theorem setK {x C dx : Addr} {od : Obj} {sl : Array (Option Value)} {am : Str → Option Value} {name : Str} {v v0 : Value} {k : Nat} {news' : Obj → List Cell} {Q : Unit → Shared → Prop} (S : St B os G L m news s) (X : K.In B)
 (hx : (x, (⟨.ref C, some dx, .plain, sl⟩ : Obj)) ∈ news) (U : ∀ od', Up dx od od' news (news' od')) (ho : NsZ k od am) (hz : k < 1000) (h0 : am name = some v0)
 (hs : findIn K (.ref C) "__setattr__" = some (some (.builtin "object.__setattr__"))) (hp : plainOver K C = true) (ht : takerIn K C name = some none) (hh : hasDictIn K C = true)
 (h : ∀ od' s', NsZ k od' (updM am name v) → St B os G L m (news' od') s' → Q () s') : wpAny (model prog w) A (setAttr (.ref x) name v) Q E s :=
 setS S X hx U ho hz hs hp ht hh (fun od' s' hz S => h od' s' (by rw [h0] at hz; exact hz) S)
end
noncomputable abbrev dictO (es : Array DictEntry) (n : Nat) : Obj := { cls := .type "dict", data := .dict es n }
section
variable {prog : Program} {w : World} {A : Around} {E : Value → Shared → Prop} {s s' : Shared} {B : Heap} {os : OsState} {G : Array GenState} {L : Addr} {m : Str → Option Value} {news news' : List Cell} {K : Frag} {env : Env}
noncomputable abbrev set0 (led : Bool) : Obj := { cls := .type "set", dict := none, data := .set #[] 0 (.fresh 0 0 led) }
theorem layFirst (led : Bool) (h : Int) (x : Value) : (layNew (.fresh 0 0 led) #[] h x).2.1.dummies = #[] ∧ 7 ≤ (layNew (.fresh 0 0 led) #[] h x).2.1.mask ∧ (layNew (.fresh 0 0 led) #[] h x).2.1.led = led := by
 unfold layNew
 split
 · rename_i slot wd _
   have hz : SetTable.has (SetTable.fresh 0 0 led).dummies slot = false := by simp [SetTable.has, SetTable.fresh]
   simp only [SetTable.put, SetTable.orStandIn, hz, Bool.false_eq_true, if_false]
   split
   · exact ⟨rfl, Nat.le_refl _, rfl⟩
   · refine ⟨rfl, ?_, rfl⟩
     simp [SetTable.standIn, SetTable.insertAt]
 · exact ⟨rfl, by simp [SetTable.standIn], rfl⟩
theorem setFirstH {a : Addr} {led : Bool} {k : Str} {t : Tok} {Q : Bool → Shared → Prop} (hg : s.heap.get? a = some (set0 led))
 (h : ∀ es tb, tb.dummies = #[] → 7 ≤ tb.mask → tb.fits 1 = true → tb.led = led → es.toList = [((strKind prog w).hash k, .str k t)] → Q true { s with heap := s.heap.update a (Obj.putSet es tb) }) : wpAny (model prog w) A (setAddHashed a (.str k t) ((strKind prog w).hash k)) Q E s := by
 unfold setAddHashed setAddHashedIn
 refine wpAny_holding (wpAny_bind (wpAny_setState_of hg rfl rfl ?_))
 dsimp only
 have hb : byScan (.str k t) #[] = true := by simp [byScan, Value.scannable, scanBound]
 rw [hb]
 simp only [↓reduceIte]
 unfold setAddByScan
 refine wpAny_bind ?_
 refine wpAny_bind (wpAny_rule ?_)
 refine wpAny_bind (wpAny_of_eq (a := ScanMet.absent) (by simp [setScan, setScanStrs]) ?_)
 dsimp only
 have hgw : ∀ (b : Bool) {s₁ : Shared} {Q' : Unit → Shared → Prop}, Q' () s₁ → wpAny (model prog w) A (match b with | true => rule "set.scan.the-table-gave-way" | false => pure ()) Q' E s₁ :=
  fun b s₁ Q' hq => by cases b <;> first | exact wpAny_pure hq | exact wpAny_rule hq
 have hperm := layNew_perm (.fresh 0 0 led) #[] ((strKind prog w).hash k) (.str k t)
 have hfits := layNew_fits (.fresh 0 0 led) #[] ((strKind prog w).hash k) (.str k t)
 obtain ⟨hd1, hd2, hd3⟩ := layFirst led ((strKind prog w).hash k) (.str k t)
 generalize hL : layNew (.fresh 0 0 led) #[] ((strKind prog w).hash k) (.str k t) = L at hperm hfits hd1 hd2 hd3 ⊢
 obtain ⟨es1, t1, wasDummy, gave⟩ := L
 dsimp only at hperm hfits hd1 hd2 hd3 ⊢
 have hes : es1.toList = [((strKind prog w).hash k, .str k t)] := by
  have : es1.toList.Perm [((strKind prog w).hash k, .str k t)] := by simpa using hperm
  exact List.perm_singleton.mp this
 have hsz : es1.size = 1 := by rw [← Array.length_toList, hes]; rfl
 rw [hsz] at hfits
 refine wpAny_bind (hgw _ ?_)
 have hend : ∀ (tb : SetTable) (rest : Sem (Option Bool)), tb.dummies = #[] → 7 ≤ tb.mask → tb.fits 1 = true → tb.led = led → wpAny (model prog w) A (storeSet a es1 tb >>= fun _ => if (!wasDummy && tb.tooFull) = true then rest else pure (some true)) (fun r s' => wpAny (model prog w) A (match r with | some added => pure added | none => setAddHashedIn a (.str k t) ((strKind prog w).hash k) 99999) Q E s') E s := by
  intro tb rest h1 h2 h3 h3'
  refine wpAny_bind (wpAny_storeSet_of hg rfl ?_ (by rw [hsz]; decide))
  have hf : tb.tooFull = false := by
   have h4 : tb.place.size = 1 := by
    simp only [SetTable.fits, Bool.and_eq_true, beq_iff_eq] at h3
    exact h3.1
   simp only [SetTable.tooFull, SetTable.fill, h1, h4]
   simp
   lia
  rw [hf, Bool.and_false, if_neg (by decide)]
  exact wpAny_pure (wpAny_pure (h es1 tb h1 h2 h3 h3' hes))
 split
 · refine wpAny_bind ?_
   rw [hashByValue_scannable 8 rfl]
   refine wpAny_pure ?_
   refine hend (if plainKind (.str k t) = true then t1 else { t1 with plain := false }) _ ?_ ?_ ?_ ?_
   · split <;> exact hd1
   · split <;> exact hd2
   · split <;> exact hfits
   · split <;> exact hd3
 · refine wpAny_bind (wpAny_pure ?_)
   exact hend t1 _ hd1 hd2 hfits hd3
theorem setFirst {a : Addr} {led : Bool} {k : Str} {t : Tok} {Q : Bool → Shared → Prop} (hg : s.heap.get? a = some (set0 led))
 (h : ∀ es tb, tb.dummies = #[] → 7 ≤ tb.mask → tb.fits 1 = true → tb.led = led → es.toList = [((strKind prog w).hash k, .str k t)] → Q true { s with heap := s.heap.update a (Obj.putSet es tb), toks := s.toks + 1 }) : wpAny (model prog w) A (setAdd a (.str k t)) Q E s := by
 unfold setAdd
 exact wpAny_holding (wpAny_bind ((strKind prog w).pyHash (isStrOf_str k t prog w) (setFirstH (s := { s with toks := s.toks + 1 }) hg h)))
structure One (prog : Program) (w : World) (o : Obj) (k : Str) (t : Tok) : Prop where
 ex : ∃ es ep tb, o = { cls := .type "set", dict := none, data := .set es ep tb } ∧ tb.dummies = #[] ∧ 7 ≤ tb.mask ∧ tb.fits 1 = true ∧ es.toList = [((strKind prog w).hash k, .str k t)] ∧ tb.led = !w.params.followText "set-order"
theorem starEmpty {a D : Addr} {o : Obj} {k : Str} {t : Tok} {ep : Nat} {Q : Unit → Shared → Prop} (hh : A.handled = none) (S : St B os G L m news s) (ha : (a, o) ∈ news) (hD : (D, dictO #[] ep) ∈ news) (ho : One prog w o k t) (hne : (D == sysModules) = false)
 (h : ∀ s', St B os G L m news s' → Q () s') : wpAny (model prog w) A (setDisplayStar a (.ref D)) Q E s := by
 have hT : s.TypeIs (.ref D) "dict" := ⟨_, S.get hD, rfl⟩
 have f1 : isSubtype (.type "dict") (.type "set") = pure false := by rw [isSubtype_type]; kernel_rfl
 have f2 : isSubtype (.type "dict") (.type "frozenset") = pure false := by rw [isSubtype_type]; kernel_rfl
 have hm : s.heap.DictAt (strKind prog w) D [] ep := ⟨_, #[], S.get hD, ⟨rfl, rfl, rfl⟩, rfl, (fun e he => by simp at he), .nil, List.nodup_nil⟩
 unfold setDisplayStar
 repeat (any_goals (first | assumption | wp_step))
 refine wpAny_askSetting ?_
 show wpAny _ _ (match if w.params.followText _ = true then Value.none else Value.ref D with | .ref a_2 => _ | _ => _) _ _ _
 cases hf : w.params.followText "set-display-star-reads-storage" with
 | false =>
  show wpAny _ _ (typeOf (.ref D) >>= _) _ _ _
  refine wpAny_bind (wpAny_typeOf hT ?_)
  show wpAny _ _ (rule _ >>= _) _ _ _
  refine wpAny_bind (wpAny_rule ?_)
  rw [hne]
  show wpAny _ _ (dictEpoch D >>= _) _ _ _
  refine wpAny_bind (wpAny_dictEpoch (S.get hD) rfl ?_)
  refine wpAny_bind (wpAny_dictEntries (S.get hD) rfl ?_)
  obtain ⟨es, ep', tb, rfl, h1, h2, h3, h4, _⟩ := ho.ex
  have h5 : es.size = 1 := by rw [← Array.length_toList, h4]; rfl
  have h6 : tb.place.size = 1 := by
   simp only [SetTable.fits, Bool.and_eq_true, beq_iff_eq] at h3
   exact h3.1
  unfold setRoomFor
  refine wpAny_bind (wpAny_bind (wpAny_setState_of (S.get ha) rfl (by rw [h5]; exact h3) ?_))
  have hr : tb.roomFor 0 = none := by
   simp only [SetTable.roomFor, SetTable.fill, h1, h6]
   rw [if_neg]
   simp
   lia
  simp only [hr, Array.size_empty]
  refine wpAny_pure ?_
  refine wpAny_bind (wpAny_of_eq (a := PUnit.unit) (by simp) ?_)
  first | exact h _ S | exact wpAny_pure (h _ S)
 | true =>
  show wpAny _ _ (pyIter (.ref D) >>= _) _ _ _
  refine wpAny_bind (wpAny_pyIter_dict hne hm ?_)
  refine wpAny_bind (wpAny_runValue (codeAny_builtin PyProof.Rows.F.entry_set_update_loop ?_))
  rw [Around.under_plainId PyProof.Rows.F.plain_set_update_loop _]
  refine wpAny_bind (wpAny_pyNext_dict_end (knd := strKind prog w) (kvs := []) (i := 0) hh ⟨_, Heap.get?_push_size _ rfl, rfl, rfl⟩ (hm.push _) rfl (fun h' hx => ?_))
  refine wpAny_pure (wpAny_pure (h _ ?_))
  exact S.ext (t := s.toks) fun b o e => hx b o (Nat.ne_of_lt (Heap.lt_size e)) (Heap.get?_push_of_some _ e)
theorem newSetLed {Q : Value → Shared → Prop} (h : Q (.ref s.heap.objs.size) { s with heap := s.heap.push (set0 (!w.params.followText "set-order")) }) : wpAny (model prog w) A (newSet (.type "set")) Q E s := by
 unfold newSet setsByText
 refine wpAny_bind (wpAny_bind (wpAny_askSetting (wpAny_pure ?_)))
 exact wpAny_newObj_type h
theorem setDispS {e1 e2 : PySem.Expr} {p1 pos : Pos} {k0 : Nat} {D : Addr} {k : Str} {t : Tok} {ep : Nat} {Q : Value → Shared → Prop} (hh : A.handled = none) (S : St B os G L m news s) (X : K.In B) (hc : kdsCode K env.code = true) (hroad : (displayRoad k0 [e1, .Starred e2 p1] == .constants) = false) (hroad2 : (displayRoad k0 [e1, .Starred e2 p1] == .unsure) = false)
 (he : starEach [e1, .Starred e2 p1] env = [(false, eval e1 env), (true, eval e2 env)]) (hD : (D, dictO #[] ep) ∈ news) (hne : (D == sysModules) = false)
 (h1 : ∀ a led s', St B os G L m ((a, set0 led) :: news) s' → wpAny (model prog w) A (eval e1 env) (fun v s₁ => v = .str k t ∧ St B os G L m ((a, set0 led) :: news) s₁ ∧ ∀ o s₂, One prog w o k t → St B os G L m ((a, o) :: news) s₂ → wpAny (model prog w) A (eval e2 env) (fun v s₃ => v = .ref D ∧ St B os G L m ((a, o) :: news) s₃ ∧ ∀ s₄, St B os G L m ((a, o) :: news) s₄ → Q (.ref a) s₄) E s₂) E s') :
 wpAny (model prog w) A (eval (.Set [e1, .Starred e2 p1] k0 pos) env) Q E s := by
 rw [arm_eval_Set]
 refine wpAny_bind (wpAny_standAt ?_)
 refine wpAny_bind (kds_main (S.X X) hc fun b => ?_)
 rw [he]
 unfold setDisplay
 dsimp only
 rw [if_neg (by rw [hroad]; exact Bool.false_ne_true)]
 refine wpAny_bind (newSetLed ?_)
 generalize hled : (!w.params.followText "set-order") = led
 have S0 := S.push (t := s.toks) (set0 led)
 dsimp only
 refine wpAny_bind (wpAny_holding ?_)
 show wpAny _ _ (evalAll [do let v ← eval e1 env; standAt pos; pure v] >>= _) _ _ _
 refine wpAny_bind ?_
 show wpAny _ _ ((eval e1 env >>= fun v => standAt pos >>= fun _ => pure v) >>= fun v => holding [v] (pure []) >>= fun r => pure (v :: r)) _ _ _
 refine wpAny_bind (wpAny_bind (wpAny_mono (h1 _ led _ S0) ?_ fun _ _ z => z))
 rintro v s₁ ⟨rfl, S1, h2⟩
 refine wpAny_bind (wpAny_standAt (wpAny_pure ?_))
 refine wpAny_bind (wpAny_holding (wpAny_pure (wpAny_pure ?_)))
 refine wpAny_bind (wpAny_holding ?_)
 refine wpAny_bind ?_
 rw [List.forIn_cons]
 refine wpAny_bind (wpAny_bind (setFirst (S1.get (.head _)) (fun es tb d1 d2 d3 d5 d4 => ?_)))
 have S2 : St B os G L m ((s.heap.objs.size, (⟨.type "set", none, .set es 1 tb, #[]⟩ : Obj)) :: news) _ := S1.same (t := s₁.toks + 1) (h' := s₁.heap.update s.heap.objs.size (Obj.putSet es tb)) Up.head (Heap.SameBut.update ..) (by
  rw [Heap.get?_update_self _ (S1.get (.head _)) (by rw [putSet_of es tb rfl]; rfl), putSet_of es tb rfl])
 have h3 := h2 _ _ ⟨es, 1, tb, rfl, d1, d2, d3, d4, d5.trans hled.symm⟩ S2
 refine wpAny_pure ?_
 show wpAny _ _ (forIn [] PUnit.unit _) _ _ _
 rw [List.forIn_nil]
 refine wpAny_pure ?_
 rw [hroad2, if_neg Bool.false_ne_true]
 refine wpAny_pure ?_
 show wpAny _ _ (forIn [(true, do let v ← eval e2 env; standAt pos; pure v)] PUnit.unit _ >>= _) _ _ _
 refine wpAny_bind ?_
 rw [List.forIn_cons]
 refine wpAny_bind (wpAny_bind (wpAny_bind (wpAny_mono h3 ?_ fun _ _ z => z)))
 rintro v s₃ ⟨rfl, S3, h4⟩
 refine wpAny_bind (wpAny_standAt (wpAny_pure ?_))
 rw [if_pos rfl]
 refine wpAny_bind (wpAny_holding (starEmpty hh S3 (.head _) (.tail _ hD) ⟨es, 1, tb, rfl, d1, d2, d3, d4, d5.trans hled.symm⟩ hne (fun s S => ?_)))
 refine wpAny_pure ?_
 show wpAny _ _ (forIn [] PUnit.unit _) _ _ _
 rw [List.forIn_nil]
 exact wpAny_pure (wpAny_pure (wpAny_pure (h4 _ S)))
end
end Mine
end
section
open PySem PySem.W PySem.Calls PyProof.Rows PySem.Spec
open PySem.Str (ofString)
namespace Mine
theorem Up.hd_or {d : Addr} {o o' : Obj} {p : Cell} {r l' : List Cell} (u : Up d o o' (p :: r) l') : (p = (d, o) ∧ l' = (d, o') :: r) ∨ ∃ r', l' = p :: r' ∧ Up d o o' r r' := by
 cases u with
 | head => exact .inl ⟨rfl, rfl⟩
 | tail u => exact .inr ⟨_, rfl, u⟩
theorem upF {d : Addr} {o : Obj} : ∀ {l : List Cell} {l' : Obj → List Cell}, (∀ o', Up d o o' l (l' o')) → (l.map (·.1)).Nodup → UpdF d o l l'
 | [], l', U, _ => nomatch U o
 | p :: r, l', U, nd => by
  rw [List.map_cons, List.nodup_cons] at nd
  by_cases h : p.1 = d
  · have hh : ∀ o', p = (d, o) ∧ l' o' = (d, o') :: r := fun o' => by
     rcases (U o').hd_or with x | ⟨r', _, u⟩
     · exact x
     · exact absurd (by rw [h]; exact List.mem_map_of_mem (f := Prod.fst) u.mem) nd.1
    have e : l' = fun o' => (d, o') :: r := funext fun o' => (hh o').2
    rw [e, (hh o).1]
    exact .head fun q hq e => nd.1 (by rw [h, ← e]; exact List.mem_map_of_mem (f := Prod.fst) hq)
  · have hh : ∀ o', l' o' = p :: (l' o').tail ∧ Up d o o' r (l' o').tail := fun o' => by
     rcases (U o').hd_or with ⟨e, _⟩ | ⟨r', e, u⟩
     · exact absurd (by rw [e]) h
     · rw [e]; exact ⟨rfl, u⟩
    have e : l' = fun o' => p :: (l' o').tail := funext fun o' => (hh o').1
    rw [e]
    exact .tail h (upF (fun o' => (hh o').2) nd.2)
structure Lam (B : Heap) (c P : Addr) : Prop where
 top : ∃ p loose mean mg mb, Top p loose mean mg mb B
 code : CodeHd B c P
noncomputable def CodeO (oc : Obj) (q : Str) : Prop := ∃ vs t, oc.data = .fields vs ∧ vs[1]? = some (.str q t)
section
variable {prog : Program} {w : World} {A : Around} {E : Value → Shared → Prop} {s s' : Shared} {B : Heap} {os : OsState} {G : Array GenState} {L a c P : Addr} {m : Str → Option Value} {news : List Cell} {news' : Obj → List Cell}
 {cn : Str} {cs : Scope} {ccd : Value} {params : Arguments} {body : PySem.Expr} {scope : Scope} {pos : Pos} {ps : Array Value} {cl : List (Str × Addr)}
theorem lam1 {Q : Value → Shared → Prop} (H : Lam B c P) (S : St B os G L m news s) (hcd : ccd = .ref c) (U : ∀ o', Up P (tabObj ps) o' news (news' o')) (ht : TriplesOk ps.toList) (hnf : codeAmong pos ps.toList = none) (hcl : closureFor scope (envX cn cs L a ccd cl) = pure []) (hdef : defaultsOf params (envX cn cs L a ccd cl) = ([], []))
 (h : ∀ f c' oc pm ctv s', CodeO oc ((envX cn cs L a ccd cl).qual ++ "<lambda>") → St B os G L m ((f, kla_obj "<lambda>" ((envX cn cs L a ccd cl).qual ++ "<lambda>") params body scope [] pm c' ctv) :: (c', oc) :: news' (tabObj (ps ++ #[rawInt pos.line, rawInt pos.col, .ref c']))) s' → Q (.ref f) s') :
 wpAny (model prog w) A (eval (.Lambda params body scope pos) (envX cn cs L a ccd cl)) Q E s := by
 obtain ⟨p, loose, mean, mg, mb, T⟩ := H.top
 refine kla_eval hdef (kla_nest (clos := []) S.F S.N T H.code hcd (upF U S.nd) ht hnf hcl (fun f c' oc vs t ctv h' tk F' N' hd1 hd2 l1 l2 => h f c' oc _ ctv _ ⟨vs, t, hd1, hd2⟩ ⟨F', N', ?_, S.gens, S.bare, S.os⟩))
 have lt' : ∀ q ∈ news' (tabObj (ps ++ #[rawInt pos.line, rawInt pos.col, .ref c'])), q.1 < c' := by
  intro q hq
  have : q.1 ∈ (news' (tabObj (ps ++ #[rawInt pos.line, rawInt pos.col, .ref c']))).map (·.1) := List.mem_map_of_mem (f := Prod.fst) hq
  rw [(U _).keys] at this
  obtain ⟨q', hq', e⟩ := List.mem_map.mp this
  rw [← e]; exact l1 q' hq'
 rw [List.map_cons, List.map_cons, List.nodup_cons, List.nodup_cons]
 refine ⟨fun hm => ?_, fun hm => ?_, by rw [(U _).keys]; exact S.nd⟩
 · rcases List.mem_cons.mp hm with e | hm
   · exact absurd (show f = c' from e) (Nat.ne_of_gt l2)
   · obtain ⟨q, hq, e⟩ := List.mem_map.mp hm
     have h1 := lt' q hq
     rw [show q.1 = f from e] at h1
     exact absurd (Nat.lt_trans h1 l2) (Nat.lt_irrefl _)
 · obtain ⟨q, hq, e⟩ := List.mem_map.mp hm
   have h1 := lt' q hq
   rw [show q.1 = c' from e] at h1
   exact absurd h1 (Nat.lt_irrefl _)
theorem lam2 {c' : Addr} {Q : Value → Shared → Prop} (H : Lam B c P) (S : St B os G L m news s) (hcd : ccd = .ref c) (hmem : (P, tabObj ps) ∈ news) (ht : TriplesOk ps.toList) (hf : codeAmong pos ps.toList = some (.ref c')) (hcl : closureFor scope (envX cn cs L a ccd cl) = pure []) (hdef : defaultsOf params (envX cn cs L a ccd cl) = ([], []))
 (h : ∀ f pm ctv s', St B os G L m ((f, kla_obj "<lambda>" ((envX cn cs L a ccd cl).qual ++ "<lambda>") params body scope [] pm c' ctv) :: news) s' → Q (.ref f) s') :
 wpAny (model prog w) A (eval (.Lambda params body scope pos) (envX cn cs L a ccd cl)) Q E s := by
 obtain ⟨p, loose, mean, mg, mb, T⟩ := H.top
 refine kla_eval hdef (kla_hit (clos := []) S.F S.N T H.code hcd hmem ht hf hcl (fun f ctv h' tk F' N' l1 => h f _ ctv _ ⟨F', N', ?_, S.gens, S.bare, S.os⟩))
 rw [List.map_cons, List.nodup_cons]
 refine ⟨fun hm => ?_, S.nd⟩
 obtain ⟨q, hq, e⟩ := List.mem_map.mp hm
 have h1 := l1 q hq
 rw [show q.1 = f from e] at h1
 exact absurd h1 (Nat.lt_irrefl _)
theorem call_lam {R : Result → Shared → Prop} {name qual : Str} {pm ctv : Value} {c' f : Addr} {oc : Obj} {args : Args} {binds : List (Str × Value)} (S : St B os G L m news s) (hlim : B.NoLimit) (ho : (f, kla_obj name qual params body scope [] pm c' ctv) ∈ news) (hc : (c', oc) ∈ news) (hco : CodeO oc qual) (hroom : A.depth < recursionLimit)
 (hbind : bindArgs (kla_fn name qual params body scope [] pm (.ref c') ctv) args = pure binds) (hloc : ∀ y ∈ binds, scope.names.lookup y.1 = some .local)
 (h : ∀ L' oL s', FrC B L oL m → St B os G L' (bindM binds) ((L, oL) :: news) s' →
  wpAny (model prog w) (A.deeper (envOf qual scope L' f (.ref c'))) (eval body (envOf qual scope L' f (.ref c'))) (fun v s' => R (.ok (.ret v)) s')
   (fun e s' => wpAny (model prog w) (A.deeper (envOf qual scope L' f (.ref c'))) (leaving (envOf qual scope L' f (.ref c')) e) (fun _ s'' => R (.error e) s'') (fun e' s'' => R (.error e') s'') s') s')
 (hco' : scope.isCoroutine = false := by rfl) (hgen : scope.isGenerator = false := by rfl) (hk : scope.kind = .function := by rfl) (hcell : ∀ x ∈ scope.names, x.2 ≠ .cell := by decide) : codeAny (model prog w) A (.call (.ref f) args) R s := by
 obtain ⟨vs, t, d1, d2⟩ := hco
 refine kla_callFunE hroom (S.get ho) rfl hco' hgen rfl ⟨c', oc, vs, t, rfl, S.get hc, d1, d2⟩ ?_
 rw [hbind]
 refine wpAny_pure (wpAny_newFunctionEnv hcell hloc (fun h₁ hns hsb => ⟨(hlim.keeps S.F.keep).fresh _ hsb, ?_⟩) hk)
 have hk₁ : ∀ b o, s.heap.get? b = some o → h₁.get? b = some o := fun b o e => hsb.extBut b o (Nat.ne_of_lt (Heap.lt_size e)) (Heap.get?_push_of_some _ e)
 obtain ⟨oL, fc, S'⟩ := S.enter (t := s.toks + binds.length) hns hk₁
 exact kla_codeExpr (h _ oL _ fc S')
end
theorem entry_set_iter : entryFor table "set.__iter__" = some Builtin.«frozenset.__iter__» :=
 entryFor_alias (id' := "frozenset.__iter__") (by kernel_rfl) rfl (by decide +kernel) (by kernel_rfl)
theorem args_set_iter (a : Value) : argsOk "set.__iter__" ⟨[a], []⟩ := by unfold argsOk; kernel_rfl
theorem slot_sit_next : Slot "set_iterator" "__next__" "set_iterator.__next__" :=
 .of (owner := "set_iterator") (n := "__next__") (by rw [typeLookup_type, builtinLookup_eq_fast]; kernel_rfl) (by decide +kernel) (by decide +kernel) (by decide +kernel)
  (by first | exact .inl (by decide +kernel) | exact .inr (by decide +kernel)) (by rw [isSubtype_type]; kernel_rfl)
theorem entry_sit_next : entryFor table "set_iterator.__next__" = some Builtin.«set_iterator.__next__» := entryFor_of_tree (by kernel_rfl)
theorem args_sit_next (a : Value) : argsOk "set_iterator.__next__" ⟨[a], []⟩ := by unfold argsOk; kernel_rfl
theorem pick1 {α : Type} (next : Nat → Nat) (xs : Array α) (x : α) (h : xs.toList = [x]) : (pickOrder next xs)[0]? = some x := by
 have hs : xs.size = 1 := by rw [← Array.length_toList, h]; rfl
 unfold pickOrder
 rw [hs, h]
 simp [pickOrder.go, Nat.mod_one]
theorem below0 (xs : Array Nat) (h : xs.size = 1) : SetTable.below xs 0 = 0 := by
 unfold SetTable.below
 rw [h]
 simp [SetTable.below.go]
theorem pick1e {α : Type} (next : Nat → Nat) (xs : Array α) (x : α) (h : xs.toList = [x]) : (pickOrder next xs)[1]? = none := by
 have hs : xs.size = 1 := by rw [← Array.length_toList, h]; rfl
 unfold pickOrder
 rw [hs, h]
 simp [pickOrder.go, Nat.mod_one]
theorem below1 (xs : Array Nat) (j k : Nat) (h : xs.toList = [j]) (hk : j < k) : SetTable.below xs k = 1 := by
 have hs : xs.size = 1 := by rw [← Array.length_toList, h]; rfl
 have hg : xs.getD 0 k = j := by
  rw [Array.getD_eq_getD_getElem?, ← Array.getElem?_toList, h]; rfl
 unfold SetTable.below
 rw [hs]
 simp only [SetTable.below.go]
 simp [hg, hk]
noncomputable abbrev sitO (a : Addr) (i j : Nat) (ep : Nat) : Obj := { cls := .type "set_iterator", data := .fields #[rawInt j, rawInt i, .ref a, rawInt 1, rawInt ep] }
section
variable {prog : Program} {w : World} {A : Around} {E : Value → Shared → Prop} {h : Heap} {g : Array GenState} {d : Drawn} {t : Nat} {os : OsState} {a : Addr}
theorem setIter1 {es : Array (Int × Value)} {ep : Nat} {tb : SetTable} {Q : Value → Shared → Prop} (hx : h.get? a = some { cls := .type "set", dict := none, data := .set es ep tb }) (hf : tb.fits 1 = true) (hs : es.size = 1)
 (hq : Q (.ref h.objs.size) ⟨h.push (sitO a 0 0 ep), g, d, t, os⟩) : wpAny (model prog w) A (pyIter (.ref a)) Q E ⟨h, g, d, t, os⟩ := by
 have hT : (⟨h, g, d, t, os⟩ : Shared).TypeIs (.ref a) "set" := ⟨_, hx, rfl⟩
 refine wpAny_pyIter_slot hT PySem.F.slot_set_iter ?_
 refine wpAny_call_entry PySem.F.slot_set_iter hT entry_set_iter ?_ (args_set_iter _)
 have hst : ∀ {A : Around} {E : Value → Shared → Prop} {Q : (Array (Int × Value) × Nat × SetTable) → Shared → Prop}, Q (es, ep, tb) ⟨h, g, d, t, os⟩ → wpAny (model prog w) A (setState a) Q E ⟨h, g, d, t, os⟩ := fun hq => wpAny_setState_of hx rfl (by rw [hs]; exact hf) hq
 repeat (any_goals (first | assumption | (with_reducible refine hst ?_) | wp_step))
 refine wpAny_askSetting ?_
 refine wpAny_pure (wpAny_pure ?_)
 rw [if_neg (by show ¬ ((_ && (!tb.plain && decide (es.size > 1))) = true); rw [hs]; simp)]
 unfold setEpoch
 repeat (any_goals (first | assumption | (with_reducible refine hst ?_) | wp_step))
 refine ⟨_, rfl, "set_iterator", .builtin "set_iterator.__next__", ⟨_, Heap.get?_push_size _ rfl, rfl⟩, slot_sit_next.lookup, ?_⟩
 rw [show ((es, ep, tb).fst.size) = 1 from hs]
 exact hq
theorem setNext1 {es : Array (Int × Value)} {ep : Nat} {tb : SetTable} {it : Addr} {x : Value} {hv : Int} {Q : Option Value → Shared → Prop} (hx : h.get? a = some { cls := .type "set", dict := none, data := .set es ep tb }) (hi : h.get? it = some (sitO a 0 0 ep)) (hf : tb.fits 1 = true) (hs : es.toList = [(hv, x)]) (hled : tb.led = !w.params.followText "set-order")
 (hq : ∀ j h', Heap.SameBut it h h' → h'.get? it = some (sitO a 1 j ep) → (0 < j ∨ w.params.followText "set-order" = true) → (∀ p ∈ tb.place.toList, p < j) ∨ w.params.followText "set-order" = true → Q (some x) ⟨h', g, d, t, os⟩) : wpAny (model prog w) A (pyNext (.ref it)) Q E ⟨h, g, d, t, os⟩ := by
 have hT : (⟨h, g, d, t, os⟩ : Shared).TypeIs (.ref it) "set_iterator" := ⟨_, hi, rfl⟩
 have hsz : es.size = 1 := by rw [← Array.length_toList, hs]; rfl
 have hst : ∀ {A : Around} {E : Value → Shared → Prop} {Q : (Array (Int × Value) × Nat × SetTable) → Shared → Prop}, Q (es, ep, tb) ⟨h, g, d, t, os⟩ → wpAny (model prog w) A (setState a) Q E ⟨h, g, d, t, os⟩ := fun hq => wpAny_setState_of hx rfl (by rw [hsz]; exact hf) hq
 unfold pyNext
 refine wpAny_bind (wpAny_attempt (wpAny_callSpecial?_slot (name := ofString "__next__") hT slot_sit_next (wpAny_call_entry slot_sit_next hT entry_sit_next ?_ (args_sit_next _))))
 unfold Builtin.«set_iterator.__next__»
 refine wpAny_bind (wpAny_of_eq (a := (.ref it, [])) (by rfl) ?_)
 refine wpAny_bind (wpAny_fieldsOf hi rfl ?_)
 show wpAny _ _ (setEntries a >>= _) _ _ _
 unfold setEntries
 refine wpAny_bind (wpAny_bind (hst (wpAny_pure ?_)))
 rw [if_neg (by show ¬ (((es.size : Int) != 1) = true); rw [hsz]; decide)]
 show wpAny _ _ (setNext a 0 0 (ep : Int).toNat >>= _) _ _ _
 rw [Int.toNat_natCast]
 refine wpAny_bind ?_
 unfold setNext
 refine wpAny_bind (hst ?_)
 unfold setsByText
 refine wpAny_bind (wpAny_bind (wpAny_askSetting (wpAny_pure ?_)))
 have hp1 : tb.place.size = 1 := by
  simp only [SetTable.fits, Bool.and_eq_true, beq_iff_eq] at hf
  exact hf.1
 have fin : ∀ nx : Nat, (0 < nx ∨ w.params.followText "set-order" = true) → ((∀ p ∈ tb.place.toList, p < nx) ∨ w.params.followText "set-order" = true) → wpAny (model prog w) A.in1 (setField (.ref it) 0 (rawInt nx) >>= fun _ => setField (.ref it) 1 (rawInt 1) >>= fun _ => ret x) (fun fin s' => ∃ v, fin = .done (.ret v) ∧ wpAny (model prog w) A (pure (some v)) Q E s') (fun e s' => wpAny (model prog w) A (match Except.error e with | Except.ok (some v) => pure (some v) | Except.ok none => unsupported "iter:the-iterator's-class-has-lost-its-__next__-amid-the-walk" | Except.error e => do
  let __do_lift ← isInstance e (Value.type "StopIteration")
  if __do_lift = true then pure none else throw e) Q E s') ⟨h, g, d, t, os⟩ := by
  intro nx hn1 hn2
  refine wpAny_bind (wpAny_setField (s := ⟨h, g, d, t, os⟩) hi rfl (by show 0 < 5; decide) ?_)
  have e1 : (h.update it (Obj.mapFields (·.setIfInBounds 0 (rawInt nx)))).get? it = some (sitO a 0 nx ep) := Heap.get?_update_self _ hi rfl
  refine wpAny_bind (wpAny_setField (s := ⟨_, g, d, t, os⟩) e1 rfl (by show 1 < 5; decide) ?_)
  have e2 : ((h.update it (Obj.mapFields (·.setIfInBounds 0 (rawInt nx)))).update it (Obj.mapFields (·.setIfInBounds 1 (rawInt 1)))).get? it = some (sitO a 1 nx ep) := Heap.get?_update_self _ e1 rfl
  exact wpAny_pure ⟨_, rfl, wpAny_pure (hq nx _ ((Heap.SameBut.update ..).trans (Heap.SameBut.update ..)) e2 hn1 hn2)⟩
 cases hby : w.params.followText "set-order" with
 | true =>
  refine KFB.if_so hby ?_
  dsimp only
  rw [if_neg (by simp)]
  unfold setWalk
  refine wpAny_bind (wpAny_bind (hst ?_))
  unfold setsByText
  refine wpAny_bind (wpAny_bind (wpAny_askSetting (wpAny_pure ?_)))
  refine KFB.if_so hby ?_
  refine wpAny_bind (wpAny_askSetting (wpAny_pure ?_))
  refine wpAny_pure ?_
  rw [pick1 _ es _ hs]
  exact fin 0 (.inr hby) (.inr hby)
 | false =>
  rw [if_neg (by show ¬ (w.params.followText "set-order" = true); rw [hby]; decide)]
  dsimp only
  rw [if_neg (by show ¬ ((!tb.plain && decide (es.size > 1)) = true); rw [hsz]; simp)]
  refine wpAny_bind ?_
  show wpAny _ _ (if (!tb.led && !es.isEmpty) = true then unsupported "set:maker-not-led" else pure ()) _ _ _
  rw [hled, hby, if_neg (by simp)]
  refine wpAny_pure (wpAny_pure ?_)
  have hpl : ∃ j, tb.place.toList = [j] := by
   have : tb.place.toList.length = 1 := by rw [Array.length_toList]; exact hp1
   exact List.length_eq_one_iff.mp this
  obtain ⟨j, hj⟩ := hpl
  have g1 : es[SetTable.below tb.place 0]? = some (hv, x) := by rw [below0 _ hp1, ← Array.getElem?_toList, hs]; rfl
  have g2 : tb.place[SetTable.below tb.place 0]? = some j := by rw [below0 _ hp1, ← Array.getElem?_toList, hj]; rfl
  rw [g1, g2]
  exact fin (j + 1) (.inl (Nat.succ_pos _)) (.inl (by rw [hj]; intro p hp; rw [List.mem_singleton.mp hp]; exact Nat.lt_succ_self _))
theorem setEnd1 {es : Array (Int × Value)} {ep j : Nat} {tb : SetTable} {it : Addr} {x : Value} {hv : Int} {Q : Option Value → Shared → Prop} (hh : A.handled = none) (hx : h.get? a = some { cls := .type "set", dict := none, data := .set es ep tb }) (hi : h.get? it = some (sitO a 1 j ep)) (hf : tb.fits 1 = true) (hs : es.toList = [(hv, x)]) (hled : tb.led = !w.params.followText "set-order")
 (hj : (∀ p ∈ tb.place.toList, p < j) ∨ w.params.followText "set-order" = true)
 (hq : ∀ h', Heap.ExtBut it h h' → Q none ⟨h', g, d, t, os⟩) : wpAny (model prog w) A (pyNext (.ref it)) Q E ⟨h, g, d, t, os⟩ := by
 have hT : (⟨h, g, d, t, os⟩ : Shared).TypeIs (.ref it) "set_iterator" := ⟨_, hi, rfl⟩
 have hsz : es.size = 1 := by rw [← Array.length_toList, hs]; rfl
 have hst : ∀ {A : Around} {E : Value → Shared → Prop} {Q : (Array (Int × Value) × Nat × SetTable) → Shared → Prop}, Q (es, ep, tb) ⟨h, g, d, t, os⟩ → wpAny (model prog w) A (setState a) Q E ⟨h, g, d, t, os⟩ := fun hq => wpAny_setState_of hx rfl (by rw [hsz]; exact hf) hq
 unfold pyNext
 refine wpAny_bind (wpAny_attempt (wpAny_callSpecial?_slot (name := ofString "__next__") hT slot_sit_next (wpAny_call_entry slot_sit_next hT entry_sit_next ?_ (args_sit_next _))))
 unfold Builtin.«set_iterator.__next__»
 refine wpAny_bind (wpAny_of_eq (a := (.ref it, [])) (by rfl) ?_)
 refine wpAny_bind (wpAny_fieldsOf hi rfl ?_)
 show wpAny _ _ (setEntries a >>= _) _ _ _
 unfold setEntries
 refine wpAny_bind (wpAny_bind (hst (wpAny_pure ?_)))
 rw [if_neg (by show ¬ (((es.size : Int) != 1) = true); rw [hsz]; decide)]
 show wpAny _ _ (setNext a (j : Int).toNat 1 (ep : Int).toNat >>= _) _ _ _
 rw [Int.toNat_natCast, Int.toNat_natCast]
 have hp1 : tb.place.size = 1 := by
  simp only [SetTable.fits, Bool.and_eq_true, beq_iff_eq] at hf
  exact hf.1
 refine wpAny_bind (wpAny_mono (Q := fun r s' => r = none ∧ s' = ⟨h, g, d, t, os⟩) ?_ ?_ fun _ _ z => z)
 · unfold setNext
   refine wpAny_bind (hst ?_)
   unfold setsByText
   refine wpAny_bind (wpAny_bind (wpAny_askSetting (wpAny_pure ?_)))
   cases hby : w.params.followText "set-order" with
   | true =>
    refine KFB.if_so hby ?_
    dsimp only
    rw [if_neg (by simp)]
    unfold setWalk
    refine wpAny_bind (wpAny_bind (hst ?_))
    unfold setsByText
    refine wpAny_bind (wpAny_bind (wpAny_askSetting (wpAny_pure ?_)))
    refine KFB.if_so hby ?_
    refine wpAny_bind (wpAny_askSetting (wpAny_pure ?_))
    refine wpAny_pure ?_
    rw [pick1e _ es _ hs]
    exact ⟨rfl, rfl⟩
   | false =>
    rw [if_neg (by show ¬ (w.params.followText "set-order" = true); rw [hby]; decide)]
    dsimp only
    rw [if_neg (by show ¬ ((!tb.plain && decide (es.size > 1)) = true); rw [hsz]; simp)]
    refine wpAny_bind ?_
    show wpAny _ _ (if (!tb.led && !es.isEmpty) = true then unsupported "set:maker-not-led" else pure ()) _ _ _
    rw [hled, hby, if_neg (by simp)]
    refine wpAny_pure (wpAny_pure ?_)
    obtain ⟨p, hp⟩ : ∃ p, tb.place.toList = [p] := List.length_eq_one_iff.mp (by rw [Array.length_toList]; exact hp1)
    have hlt : p < j := (hj.resolve_right (by rw [hby]; decide)) p (by rw [hp]; exact .head _)
    have g1 : es[SetTable.below tb.place j]? = none := by rw [below1 _ p j hp hlt, ← Array.getElem?_toList, hs]; rfl
    rw [g1]
    exact ⟨rfl, rfl⟩
 · rintro r s' ⟨rfl, rfl⟩
   show wpAny _ _ (setField (.ref it) 2 .none >>= _) _ _ _
   refine wpAny_bind (wpAny_setField (s := ⟨h, g, d, t, os⟩) hi rfl (by show 2 < 5; decide) ?_)
   show wpAny _ _ (newExc (.type "StopIteration") [] >>= _) _ _ _
   refine wpAny_bind ?_
   simp only [newExc, newTuple]
   refine wpAny_bind (wpAny_newObj_type ?_ (by size_fits))
   refine wpAny_bind (m := firstArgMember _ _) (wpAny_of_eq (a := Value.none) (by first | rfl | (simp only [firstArgMember]; rfl)) ?_)
   refine wpAny_newObj_type ?_ (by size_fits)
   simp only [raiseNew]
   refine wpAny_bind (wpAny_handled ?_)
   rw [show A.in1.handled = none from hh]
   refine wpAny_bind (wpAny_pure (wpAny_throw ?_))
   refine wpAny_bind (wpAny_isInstance (T := "StopIteration") (b := true) ⟨_, Heap.get?_push_size _ rfl, rfl⟩ isSubtype_stop ?_)
   exact wpAny_pure (hq _ (((Heap.SameBut.update ..).extBut.push _).push _))
end
section
variable {prog : Program} {w : World} {A : Around} {E : Value → Shared → Prop} {s s' : Shared} {B : Heap} {os : OsState} {G : Array GenState} {L a : Addr} {m : Str → Option Value} {news : List Cell} {o : Obj} {k : Str} {t : Tok}
theorem hintSet {Q : Bool → Shared → Prop} (hT : s.TypeIs (.ref a) "set") (h : Q false s) : wpAny (model prog w) A (Builtin.List.listLengthHint (.ref a)) Q E s := by
 have f1 := PySem.F.slot_set_len.lookup
 have f2 : isSubtype (.type "set") (.type "set") = pure true := by rw [isSubtype_type]; kernel_rfl
 have f3 : splitId "set.__len__" = some ("set", "__len__") := by decide +kernel
 unfold Builtin.List.listLengthHint
 refine wpAny_bind (wpAny_specialOf hT f1 ?_)
 dsimp only
 rw [f3]
 dsimp only
 refine wpAny_bind (wpAny_isInstance hT f2 ?_)
 refine KFB.if_not rfl ?_
 refine KFB.if_so (by decide +kernel) ?_
 refine wpAny_bind (wpAny_typeOf hT ?_)
 exact wpAny_pure h
theorem updL {D : Addr} {its : Array Value} {n : Nat} {f : Array Value → Array Value} {news' : Nat → List Cell} {Q : Unit → Shared → Prop} (S : St B os G L m news s) (U : ∀ n', Up D (listOf its n) (listOf (f its) n') news (news' n')) (h : ∀ n' s', St B os G L m (news' n') s' → Q () s') (h1 : its.size ≤ sizeLine) (h2 : (f its).size ≤ sizeLine + 1) :
 wpAny (model prog w) A (Builtin.List.listUpdate (.ref D) f) Q E s := by
 have hD := S.get (U 0).mem
 obtain ⟨n', e⟩ := mapSeq_any f its n
 exact listUpdate_at hD rfl (h n' _ (S.same (t := s.toks) (U n') (Heap.SameBut.update ..) (by rw [Heap.get?_update_self _ hD (by rw [e]; rfl), e]))) h1 h2
theorem nextOneS {es : Array (Int × Value)} {ep : Nat} {tb : SetTable} {it : Addr} {x : Value} {hv : Int} {news' : Obj → List Cell} {Q : Option Value → Shared → Prop} (S : St B os G L m news s) (hx : (a, (⟨.type "set", none, .set es ep tb, #[]⟩ : Obj)) ∈ news) (U : ∀ o', Up it (sitO a 0 0 ep) o' news (news' o')) (hf : tb.fits 1 = true) (hs : es.toList = [(hv, x)]) (hled : tb.led = !w.params.followText "set-order")
 (h : ∀ j s', ((∀ p ∈ tb.place.toList, p < j) ∨ w.params.followText "set-order" = true) → St B os G L m (news' (sitO a 1 j ep)) s' → Q (some x) s') : wpAny (model prog w) A (pyNext (.ref it)) Q E s := by
 have h1 := S.get hx
 have h2 := S.get (U (sitO a 0 0 ep)).mem
 obtain ⟨hp, g, d, tk, oo⟩ := s
 exact setNext1 h1 h2 hf hs hled (fun j h' sb e _ hj => h j _ hj (S.same (t := tk) (U _) sb e))
theorem endOneS {es : Array (Int × Value)} {ep j : Nat} {tb : SetTable} {it : Addr} {x : Value} {hv : Int} {Q : Option Value → Shared → Prop} (hh : A.handled = none) (S : St B os G L m ((it, sitO a 1 j ep) :: news) s) (hx : (a, (⟨.type "set", none, .set es ep tb, #[]⟩ : Obj)) ∈ news) (hf : tb.fits 1 = true) (hs : es.toList = [(hv, x)]) (hled : tb.led = !w.params.followText "set-order")
 (hj : (∀ p ∈ tb.place.toList, p < j) ∨ w.params.followText "set-order" = true) (h : ∀ s', St B os G L m news s' → Q none s') : wpAny (model prog w) A (pyNext (.ref it)) Q E s := by
 have h1 := S.get (.tail _ hx)
 have h2 := S.get (.head _)
 have z := S.N _ (.head _)
 have nd := S.nd
 rw [List.map_cons, List.nodup_cons] at nd
 obtain ⟨hp, g, d, tk, oo⟩ := s
 refine setEnd1 hh h1 h2 hf hs hled hj (fun h' hx' => h _ ?_)
 refine ⟨⟨S.F.ns.extBut hx' z.2.1.symm, fun b o e => hx' b o (fun q => by rw [q, z.2.2] at e; cases e) (S.F.keep b o e), S.F.above⟩, fun p hp => ?_, nd.2, S.gens, S.bare, S.os⟩
 have y := S.N p (.tail _ hp)
 exact ⟨hx' _ _ (fun q => nd.1 (by show it ∈ _; rw [← q]; exact List.mem_map_of_mem (f := Prod.fst) hp)) y.1, y.2⟩
theorem collectOne {Q : List Value → Shared → Prop} (hh : A.handled = none) (S : St B os G L m news s) (ha : (a, o) ∈ news) (ho : One prog w o k t) (h : ∀ s', St B os G L m news s' → Q [.str k t] s') : wpAny (model prog w) A (collect (.ref a)) Q E s := by
 obtain ⟨es, ep, tb, rfl, d1, d2, d3, d4, d5⟩ := ho.ex
 have hsz : es.size = 1 := by rw [← Array.length_toList, d4]; rfl
 unfold collect
 refine wpAny_bind (wpAny_runValue (codeAny_builtin entry_proto_collect' ?_))
 show wpAny _ _ (do again (.builtin "list.__iadd__" ⟨[← newList [], .ref a], []⟩)) _ _ s
 refine wpAny_bind (listS S (fun l s S => wpAny_pure ⟨Code.quiet_builtin _ (by decide +kernel), codeAny_builtin entry_list_iadd' ?_⟩))
 show wpAny _ _ (Builtin.List.listExtendWith (.ref l) (.ref a) (.ref l)) _ _ _
 unfold Builtin.List.listExtendWith
 have hT : s.TypeIs (.ref a) "set" := ⟨_, S.get (.tail _ ha), rfl⟩
 refine wpAny_bind (wpAny_typeOf hT ?_)
 have hla : (l == a) = false := by
  have nd := S.nd
  rw [List.map_cons, List.nodup_cons] at nd
  exact beq_false_of_ne fun e => nd.1 (by show l ∈ _; rw [e]; exact List.mem_map_of_mem (f := Prod.fst) ha)
 refine KFB.if_not (by show ((l == a) || _ || _) = false; rw [hla]; decide) ?_
 have hx := S.get (.tail _ ha)
 obtain ⟨hp, g, d, tk, oo⟩ := s
 refine wpAny_bind (setIter1 hx d3 hsz ?_)
 have S1 := S.push (t := tk) (sitO a 0 0 ep)
 refine wpAny_bind (wpAny_holding (hintSet ⟨_, S1.get (.tail _ (.tail _ ha)), rfl⟩ ?_))
 refine KFB.if_so (by decide +kernel) ?_
 refine wpAny_bind (wpAny_rule ?_)
 unfold Builtin.List.listTouch
 refine wpAny_bind (wpAny_bind (updL S1 (fun n' => Up.tail Up.head) (fun n1 s S => ?_) (by decide) (by decide)))
 refine updL S (fun n' => Up.tail Up.head) (fun n2 s S => ?_) (by decide) (by decide)
 refine wpAny_pure ⟨Code.quiet_builtin _ (by decide +kernel), codeAny_builtin PySem.F.entry_extend_loop ?_⟩
 show wpAny _ _ (pyNext (.ref hp.objs.size) >>= _) _ _ _
 refine wpAny_bind (nextOneS S (.tail _ (.tail _ ha)) (fun o' => Up.head) d3 d4 d5 (fun j s hj S => ?_))
 dsimp only
 refine wpAny_bind (updL S (fun n' => Up.tail Up.head) (fun n3 s S => ?_) (by decide) (by rw [PySem.sizeLine_eq]; simp))
 refine wpAny_pure ⟨Code.quiet_builtin _ (by decide +kernel), codeAny_builtin PySem.F.entry_extend_loop ?_⟩
 show wpAny _ _ (pyNext (.ref hp.objs.size) >>= _) _ _ _
 refine wpAny_bind (endOneS hh S (.tail _ ha) d3 d4 d5 hj (fun s S => ?_))
 refine wpAny_pure ?_
 show wpAny _ _ (load l >>= _) _ _ _
 refine wpAny_bind (wpAny_load (S.get (.head _)) ?_)
 exact wpAny_pure (h _ (S.drop (List.sublist_cons_self _ _)))
end
section
variable {prog : Program} {w : World} {A : Around} {E : Value → Shared → Prop} {s s' : Shared} {B : Heap} {os : OsState} {G : Array GenState} {L a : Addr} {m : Str → Option Value} {news : List Cell} {o : Obj} {k : Str} {t : Tok}
end
end Mine
end
section
open PySem PySem.W PySem.Calls PyProof.Rows PySem.Spec PySem.Builtin PySem.Builtin.ObjectAttr
open PySem.Str (ofString)
namespace Mine
section
variable {prog : Program} {w : World} {A : Around} {E : Value → Shared → Prop} {s s' : Shared} {B : Heap} {os : OsState} {G : Array GenState} {L : Addr} {m : Str → Option Value} {news : List Cell} {K : Frag}
theorem boundS {x C dx f : Addr} {od : Obj} {sl : Array (Option Value)} {am : Str → Option Value} {name : Str} {expr : Bool} {Q : Value → Shared → Prop} (S : St B os G L m news s) (X : K.In B)
 (hx : (x, (⟨.ref C, some dx, .plain, sl⟩ : Obj)) ∈ news) (hd : (dx, od) ∈ news) (ho : NsO od am) (hg : plainGet K C name = true) (hh : hasDictIn K C = true) (ha : findIn K (.ref C) name = some (some (.ref f))) (hf : isFn K (.ref f) = true)
 (hgf : specialIn K (.ref f) "__get__" = some (some (.builtin "function.__get__"))) (ht : takesIn K (.ref f) = some false) (hc : (copiedNames.contains name) = false) (hv : am name = none)
 (h : ∀ q s', St B os G L m ((q, methodObj (.ref f) (.ref x)) :: news) s' → Q (.ref q) s') : wpAny (model prog w) A (getAttr (.ref x) name expr) Q E s :=
 get_bind (S.X X) (InstAt.of_news S.N hx hd) (plainGet_of hg).1 (findObj_fn hh ha hgf ht hc (by rw [ho.look, hv])) (plainGet_of hg).2
  (wpAny_call (fn_get (s := { s with toks := s.toks + 1 }) (S.X X) (beq_iff_eq.mp hf) (handed_on rfl (h s.heap.objs.size _ (S.push (t := s.toks + 1) (methodObj (.ref f) (.ref x)))))))
end
end Mine
end
section
open PySem PySem.W PySem.Calls PyProof.Rows PySem.Spec
open PySem.Str (ofString)
namespace Mine
theorem CellsAre.keys {cm : Str → Option Value} {cs : List (Str × Addr)} {cells : List Cell} (h : CellsAre cm cs cells) : cells.map (·.1) = cs.map (·.2) := by
 induction h with
 | nil => rfl
 | cons _ _ ih => simp only [List.map_cons, ih]
section
variable {prog : Program} {w : World} {A : Around} {s s' : Shared} {B : Heap} {os : OsState} {G : Array GenState} {L c : Addr} {m : Str → Option Value} {news : List Cell} {o : Obj} {K : Frag}
theorem call_fnC {R : Result → Shared → Prop} {name qual : Str} {params : Arguments} {body : List Stmt} {scope : Scope} {dV kV doc pm cdv ct oc : Value} {an od : Option Addr} {osl : Array (Option Value)} {f : Addr} {args : Args} {binds : List (Str × Value)}
 (S : St B os G L m news s) (X : K.In B) (hlim : B.NoLimit)
 (ho : K.lookup f = some ⟨oc, od, .func (fnOf name qual params body scope dV kV doc pm an cdv ct), osl⟩) (hcd : codeIn K cdv qual = true) (hroom : A.depth < recursionLimit)
 (hbind : BindsTo s (fnOf name qual params body scope dV kV doc pm an cdv ct) args binds)
 (hkind : ∀ n, ∀ x ∈ binds, scope.names.lookup x.1 = some .local ∨ (scope.names.lookup x.1 = some .cell ∧ ((cellsFrom n scope.names []).lookup x.1).isSome = true))
 (hnd : ((cellsFrom 0 scope.names []).map (·.1)).Nodup) (hnd2 : ∀ n, ((cellsFrom n scope.names []).map (·.2)).Nodup)
 (h : ∀ L' oL cells s', FrC B L oL m → CellsAre (bindC (envOfC qual scope L' f cdv).kindOf binds fun _ => none) (cellsFrom (L' + 1) scope.names []) cells → St B os G L' (bindL (envOfC qual scope L' f cdv).kindOf binds fun _ => none) (cells ++ ((L, oL) :: news)) s' →
  wpAny (model prog w) (A.deeper (envOfC qual scope L' f cdv)) (execs body (envOfC qual scope L' f cdv))
   (fun fl s' => R (.ok (.ret (match fl with | .ret v => v | _ => .none))) s')
   (fun e s' => wpAny (model prog w) (A.deeper (envOfC qual scope L' f cdv)) (leaving (envOfC qual scope L' f cdv) e) (fun _ s'' => R (.error e) s'') (fun e' s'' => R (.error e') s'') s') s')
 (hco : scope.isCoroutine = false := by rfl) (hgen : scope.isGenerator = false := by rfl) (hk : scope.kind = .function := by rfl) : codeAny (model prog w) A (.call (.ref f) args) R s := by
 refine codeAny_call_function hroom (S.X X _ _ ho) rfl hco hgen rfl (codeRec_of (S.X X) hcd) (hbind _ _ _ _ ?_)
 refine wpAny_newFunctionEnv_cells hk (hkind _) fun env' he s' x => ?_
 subst he
 refine ⟨(hlim.keeps S.F.keep).keeps x.toInCall.keep, codeAny_func ?_⟩
 obtain ⟨h₁, tk, rfl, _⟩ := x.done
 have hk₁ := x.toInCall.keep
 obtain ⟨cells, NC, Y⟩ := Cl.news (h₀ := s.heap) (Nat.le_refl _) fun n c hm => ⟨x.cell n c (lookup_of_mem_nodup (cellsFrom_names scope.names 0 (s.heap.objs.size + 1) [] [] rfl ▸ hnd) hm), x.above n c hm⟩
 obtain ⟨oL, fc, S'⟩ := S.enter (t := tk) x.toInCall.ns hk₁
 refine h s.heap.objs.size oL cells _ fc Y ⟨S'.F, fun p hp => ?_, ?_, S'.gens, S'.bare, S'.os⟩
 · rcases List.mem_append.mp hp with hp | hp
   · refine ⟨(NC p hp).1, (NC p hp).2.1, ?_⟩
     cases q : B.get? p.1 with
     | none => rfl
     | some o => have := S.F.keep _ _ q; rw [(NC p hp).2.2] at this; cases this
   · exact S'.N p hp
 · rw [List.map_append, List.nodup_append]
   refine ⟨by rw [CellsAre.keys Y]; exact hnd2 _, S'.nd, fun b hb d hd e => ?_⟩
   subst e
   obtain ⟨p, hp, rfl⟩ := List.mem_map.mp hb
   have h0 := (NC p hp).2.2
   rcases List.mem_cons.mp hd with e | hd
   · obtain ⟨oL', e', _⟩ := ns_nsO S.F.ns
     rw [e, e'] at h0; cases h0
   · obtain ⟨q, hq, e⟩ := List.mem_map.mp hd
     rw [← e, (S.N q hq).1] at h0; cases h0
end
section
variable {A : Around} {E : Value → Shared → Prop} {s s' : Shared} {B : Heap} {os : OsState} {G : Array GenState} {L a c : Addr} {m : Str → Option Value} {news news' : List Cell} {o : Obj} {K : Frag}
 {cn : Str} {cs : Scope} {ccd : Value} {cl : List (Str × Addr)} {x : Str} {pos : Pos} {v : Value}
theorem ldX {M : Model} {Q : Value → Shared → Prop} (S : St B os G L m news s) (hv : m x = some v) (h : Q v s)
 (hk : cs.kind = .function := by rfl) (hx : (envX cn cs L a ccd cl).kindOf x = some .local := by rfl) (hd : (x == ("__debug__" : Str)) = false := by decide) : wpAny M A (eval (.Name x pos) (envX cn cs L a ccd cl)) Q E s := nameX_L S.F hv h hk hx hd
theorem ldCell {M : Model} {Q : Value → Shared → Prop} (S : St B os G L m news s) (hc : cl.lookup x = some c) (hm : (c, o) ∈ news) (hdt : o.data = .cell (some v)) (h : Q v s)
 (hk : cs.kind = .function := by rfl) (hx : (envX cn cs L a ccd cl).kindOf x = some .cell := by rfl) (hb : (x == ("__debug__" : Str)) = false := by decide) : wpAny M A (eval (.Name x pos) (envX cn cs L a ccd cl)) Q E s := nameX_C S.N hc hm hdt h hk hx hb
theorem bltX {M : Model} {Q : Value → Shared → Prop} (C : Cx K B) (S : St B os G L m news s) (e : nsIn K mainGlobals x = some none) (hv : bootBuiltins x = some v) (hn : x ≠ "__name__") (h : Q v s)
 (hk : cs.kind = .function := by rfl) (hx : (envX cn cs L a ccd cl).kindOf x = some .globalImplicit := by rfl) (hd : (x == ("__debug__" : Str)) = false := by decide) : wpAny M A (eval (.Name x pos) (envX cn cs L a ccd cl)) Q E s :=
 let ⟨_, _, _, _, T⟩ := C.top; nameX_B S.F C.X T e hv hn h hk hx hd
theorem stX {M : Model} {Q : Unit → Shared → Prop} (S : St B os G L m news s) (h : ∀ s', St B os G L (updM m x v) news s' → Q () s')
 (hk : cs.kind = .function := by rfl) (hx : (envX cn cs L a ccd cl).kindOf x = some .local := by rfl) : wpAny M A (storeName (envX cn cs L a ccd cl) x v) Q E s :=
 storeX_L S.F S.N (fun h' F' N' => h _ (S.to (s' := { s with heap := h', toks := s.toks + 1 }) F' N' rfl)) hk hx
theorem stCell {M : Model} {news' : Obj → List Cell} {v₀ : Option Value} {Q : Unit → Shared → Prop} (S : St B os G L m news s) (hc : cl.lookup x = some c) (U : ∀ o', Up c o o' news (news' o')) (hd : o.data = .cell v₀)
 (h : ∀ o' s', o'.data = .cell (some v) → St B os G L m (news' o') s' → Q () s')
 (hk : cs.kind = .function := by rfl) (hx : (envX cn cs L a ccd cl).kindOf x = some .cell := by rfl) : wpAny M A (storeName (envX cn cs L a ccd cl) x v) Q E s :=
 storeX_C S.F S.N hc (upF U S.nd) hd (fun h' o' F' N' hd' => h o' _ hd' (S.to (s' := { s with heap := h' }) F' N' (U o').keys)) hk hx
end
noncomputable def LI (o : Obj) (l : Addr) (i : Nat) : Prop := o.cls = .type "list_iterator" ∧ o.data = .fields #[.ref l, .int i 0]
section
variable {prog : Program} {w : World} {A : Around} {E : Value → Shared → Prop} {s s' : Shared} {B : Heap} {os : OsState} {G : Array GenState} {L : Addr} {m : Str → Option Value} {news news' : List Cell} {o : Obj}
theorem iterL {l : Addr} {its : Array Value} {n : Nat} {Q : Value → Shared → Prop} (S : St B os G L m news s) (hl : (l, listOf its n) ∈ news) (h : ∀ it oit s', LI oit l 0 → St B os G L m ((it, oit) :: news) s' → Q (.ref it) s') : wpAny (model prog w) A (pyIter (.ref l)) Q E s :=
 wpAny_pyIter_list (listOf_isList (S.get hl)) (h _ _ _ ⟨rfl, rfl⟩ (S.push (t := s.toks) _))
theorem nextL {l it : Addr} {its : Array Value} {n i : Nat} {x : Value} {oit : Obj} {news' : Obj → List Cell} {Q : Option Value → Shared → Prop} (S : St B os G L m news s) (hl : (l, listOf its n) ∈ news) (U : ∀ o', Up it oit o' news (news' o')) (hi : LI oit l i) (hx : its[i]? = some x)
 (h : ∀ o' s', LI o' l (i + 1) → St B os G L m (news' o') s' → Q (some x) s') : wpAny (model prog w) A (pyNext (.ref it)) Q E s := by
 refine wpAny_pyNext_list_item ⟨oit, S.get (U oit).mem, hi.1, hi.2⟩ (listOf_isList (S.get hl)) hx (fun h' hit hs => ?_)
 obtain ⟨o', e, h1, h2⟩ := hit
 exact h o' _ ⟨h1, h2⟩ (S.same (t := s.toks) (U o') hs e)
theorem endL {l it : Addr} {its : Array Value} {n i : Nat} {oit : Obj} {Q : Option Value → Shared → Prop} (hh : A.handled = none) (S : St B os G L m ((it, oit) :: news) s) (hl : (l, listOf its n) ∈ news) (hi : LI oit l i) (hx : its[i]? = none)
 (h : ∀ s', St B os G L m news s' → Q none s') : wpAny (model prog w) A (pyNext (.ref it)) Q E s := by
 have z := S.N _ (.head _)
 have nd := S.nd
 rw [List.map_cons, List.nodup_cons] at nd
 refine wpAny_pyNext_list_end hh ⟨oit, S.get (.head _), hi.1, hi.2⟩ (listOf_isList (S.get (.tail _ hl))) hx (fun h' hx' => h _ ?_)
 refine ⟨⟨S.F.ns.extBut hx' z.2.1.symm, fun b o e => hx' b o (fun q => by rw [q, z.2.2] at e; cases e) (S.F.keep b o e), S.F.above⟩, fun p hp => ?_, nd.2, S.gens, S.bare, S.os⟩
 have y := S.N p (.tail _ hp)
 exact ⟨hx' _ _ (fun q => nd.1 (by show it ∈ _; rw [← q]; exact List.mem_map_of_mem (f := Prod.fst) hp)) y.1, y.2⟩
theorem dictSetS {D : Addr} {od : Obj} {kvs : List (Str × Value)} {k : Str} {t : Tok} {v : Value} {news' : Obj → List Cell} {Q : Unit → Shared → Prop} (S : St B os G L m news s) (U : ∀ o', Up D od o' news (news' o')) (hd : od.IsDictOf (strKind prog w) kvs) (hz : kvs.length < 1000)
 (h : ∀ o' s', o'.IsDictOf (strKind prog w) (stored kvs k v) → St B os G L m (news' o') s' → Q () s') : wpAny (model prog w) A (dictSet D (.str k t) v) Q E s := by
 refine wpAny_dictSet_pairs (isStrOf_str k t prog w) (Heap.dictOf_iff.mpr ⟨od, S.get (U od).mem, hd⟩) (fun h' hd' hs => ?_) ?_
 · obtain ⟨o', e, hd''⟩ := Heap.dictOf_iff.mp hd'
   exact h o' _ hd'' (S.same (U o') hs e)
 · rw [PySem.sizeLine_eq]; lia
end
section
variable {prog : Program} {w : World} {A : Around} {E : Value → Shared → Prop} {s s' : Shared} {B : Heap} {os : OsState} {G : Array GenState} {L C a : Addr} {m mC : Str → Option Value} {news : List Cell} {o oL : Obj} {env : Env}
theorem St.loseNs {oC : Obj} (S : St B os G L m ((C, oC) :: news) s) {h' : Heap} (hs : Heap.SameBut C s.heap h') : St B os G L m news { s with heap := h' } := by
 have z := S.N _ (.head _)
 have nd := S.nd
 rw [List.map_cons, List.nodup_cons] at nd
 refine ⟨S.F.change hs z.2.1 z.2.2, fun p hp => ⟨(hs.2 p.1 fun e => nd.1 ?_).trans (S.N p (.tail _ hp)).1, (S.N p (.tail _ hp)).2⟩, nd.2, S.gens, S.bare, S.os⟩
 show C ∈ _
 rw [← e]; exact List.mem_map_of_mem (f := Prod.fst) hp
theorem St.turn (S : St B os G C mC ((L, oL) :: news) s) (f : FrC B L oL m) : ∃ oC, NsO oC mC ∧ St B os G L m ((C, oC) :: news) s := by
 obtain ⟨oC, e, hC⟩ := ns_nsO S.F.ns
 have nd := S.nd
 rw [List.map_cons, List.nodup_cons] at nd
 have z := S.N _ (.head _)
 refine ⟨oC, hC, ⟨f.ns.ns z.1, S.F.keep, f.above⟩, fun p hp => ?_, ?_, S.gens, S.bare, S.os⟩
 · rcases List.mem_cons.mp hp with rfl | hp
   · exact ⟨e, fun q => z.2.1 q.symm, base_none S.F.above⟩
   · have y := S.N p (.tail _ hp)
     refine ⟨y.1, fun q => nd.1 ?_, y.2.2⟩
     show L ∈ _
     rw [← q]; exact List.mem_map_of_mem (f := Prod.fst) hp
 · rw [List.map_cons, List.nodup_cons]
   refine ⟨fun hm => ?_, nd.2⟩
   obtain ⟨p, hp, q⟩ := List.mem_map.mp hm
   exact (S.N p (.tail _ hp)).2.1 q
theorem comp_enter {e : PySem.Expr} {it acc : Value} {scope : Scope} {cl : List (Str × Addr)} {R : Addr → Result → Shared → Prop} (S : St B os G L m news s) (hcell : ∀ y ∈ scope.names, y.2 ≠ .cell) (hkind : scope.kind = .function)
 (h : ∀ C oL s', FrC B L oL m → St B os G C (fun _ => none) ((L, oL) :: news) s' → codeAny (model prog w) A (.compStart e 0 it acc (compEnvC scope cl C env)) (R C) s') :
 wpAny (model prog w) A (newFunctionEnv scope env.globals cl [] env.qual none .none (some env)) (fun cenv s₄ => codeAny (model prog w) A (.compStart e 0 it acc { cenv with scope := relabel scope env }) (R cenv.locals) s₄) E s := by
 refine wpAny_newFunctionEnv hcell (by intro y hy; simp at hy) (fun h₁ hns hsb => ?_) hkind
 have hk₁ : ∀ b o, s.heap.get? b = some o → h₁.get? b = some o := fun b o e => (hsb.2 b (Nat.ne_of_lt (Heap.lt_size e))).trans (Heap.get?_push_of_some _ e)
 obtain ⟨oL, fc, S'⟩ := S.enter (t := s.toks + 0) hns hk₁
 exact h _ oL _ fc S'
theorem comp_none {acc : Value} {fl : Flow} {Q : Value → Shared → Prop} (S : St B os G C mC ((L, oL) :: news) s) (f : FrC B L oL m) (h : ∀ s', St B os G L m news s' → Q acc s') : compPost (model prog w) A E none Q acc C (.ok fl) s := by
 obtain ⟨oC, hC, S'⟩ := S.turn f
 exact ⟨mC, S.F.ns, fun h' hs => h _ (S'.loseNs hs)⟩
theorem comp_some {acc : Value} {fl : Flow} {u : Value → Sem Unit} {Q : Value → Shared → Prop} {m' : Str → Option Value} (S : St B os G C mC ((L, oL) :: news) s) (f : FrC B L oL m)
 (hu : ∀ oC s', St B os G L m ((C, oC) :: news) s' → wpAny (model prog w) A (u acc) (fun _ s'' => St B os G L m' ((C, oC) :: news) s'') E s') (h : ∀ s', St B os G L m' news s' → Q .none s') : compPost (model prog w) A E (some u) Q acc C (.ok fl) s := by
 obtain ⟨oC, hC, S'⟩ := S.turn f
 refine wpAny_mono (hu oC _ S') (fun _ s'' S'' => ?_) fun _ _ z => z
 exact ⟨mC, hC.ns (S''.get (.head _)), fun h' hs => h _ (S''.loseNs hs)⟩
theorem selfL {l it : Addr} {i : Nat} {oit : Obj} {Q : Value → Shared → Prop} (S : St B os G L m news s) (hm : (it, oit) ∈ news) (hi : LI oit l i) (h : Q (.ref it) s) : wpAny (model prog w) A (pyIter (.ref it)) Q E s :=
 wpAny_pyIter_listiter ⟨oit, S.get hm, hi.1, hi.2⟩ h
end
end Mine
end
section
open PySem PySem.W PySem.Calls PyProof.Rows PySem.Spec
open PySem.Str (ofString)
namespace Mine
theorem dictO_is {prog : Program} {w : World} {ep : Nat} : (dictO #[] ep).IsDictOf (strKind prog w) [] := ⟨#[], ep, ⟨rfl, rfl, rfl⟩, rfl, (fun e he => by simp at he), .nil, List.nodup_nil⟩
section
variable {prog : Program} {w : World} {A : Around} {E : Value → Shared → Prop} {s s' : Shared} {B : Heap} {os : OsState} {G : Array GenState} {L C a c D : Addr} {m : Str → Option Value} {news : List Cell} {o : Obj} {env : Env}
theorem dict0S {pos : Pos} {Q : Value → Shared → Prop} (S : St B os G L m news s) (hlim : B.NoLimit) (h : ∀ a s', (a == sysModules) = false → St B os G L m ((a, dictO #[] 0) :: news) s' → Q (.ref a) s') : wpAny (model prog w) A (eval (.Dict [] [] pos) env) Q E s :=
 wpAny_Dict_empty (h _ _ (S.F.notModules (modules_low hlim)) (S.push (t := s.toks) (dictO #[] 0)))
theorem dictGetM {kvs : List (Str × Value)} {pl : Sem Bool} {Q : Value × List Value → Shared → Prop} (S : St B os G L m news s) (hD : (D, o) ∈ news) (hd : o.IsDictOf (strKind prog w) kvs) (h : Q (.builtin "dict.get", [.ref D]) s) : wpAny (model prog w) A (getMethod (.ref D) "get" pl) Q E s :=
 kdg_method S.N hD hd h
theorem dictGet {kvs : List (Str × Value)} {k : Str} {t : Tok} {Q : Value → Shared → Prop} (S : St B os G L m news s) (hD : (D, o) ∈ news) (hd : o.IsDictOf (strKind prog w) kvs) (hm : (D == sysModules) = false) (h : ∀ s', St B os G L m news s' → Q ((valueAt kvs k).getD .none) s') : wpAny (model prog w) A (call (.builtin "dict.get") [.ref D, .str k t]) Q E s :=
 kdg_get1 S.N hD hd hm (isStrOf_str k t prog w) _ rfl (h _ S.tk)
theorem dictItem {kvs : List (Str × Value)} {k : Str} {t : Tok} {v : Value} {value slice : PySem.Expr} {Q : Value → Shared → Prop} (S : St B os G L m news s) (hD : (D, o) ∈ news) (hd : o.IsDictOf (strKind prog w) kvs) (hv : valueAt kvs k = some v) (h : ∀ s', St B os G L m news s' → Q v s')
 (hs : subscripted slice false (.ref D) (.str k t) = operate [.ref D, .str k t] (getItem (.ref D) (.str k t)) := by with_unfolding_all rfl) (hg : ∀ r, letTemporaryGo value (.ref D) r = pure () := by intro _; with_unfolding_all rfl) :
 wpAny (model prog w) A (subscriptTail value slice (.ref D) (.str k t)) Q E s :=
 kda_item S.N hD hd (isStrOf_str k t prog w) hv (h _ S.tk) hs hg
theorem split2S {x y : Str} {k : Int} {t u v : Tok} {Q : Value → Shared → Prop} (S : St B os G L m news s) (hy : (y.length == 0) = false) (hk : (decide (k < -(2 ^ 63 : Int)) || decide (k ≥ 2 ^ 63)) = false) (hx : x.length ≤ 1000)
 (h : ∀ l a s', l.map (·.1) = Txt.splitMax x y k → St B os G L m ((a, listOf (strValues l).toArray 0) :: news) s' → Q (.ref a) s') : wpAny (model prog w) A (call (.builtin "str.split") [.str x t, .str y u, .int k v]) Q E s :=
 splitN2A S.F S.N hy hk (fun l h' tk e _ _ _ F N => h l _ _ e (S.cons (s' := { s with heap := h', toks := tk }) F N fun _ hp => S.lt hp)) (by rw [PySem.sizeLine_eq]; lia)
end
end Mine
namespace Mine
section
variable {M : Model} {A : Around} {E : Value → Shared → Prop} {s : Shared} {B : Heap} {os : OsState} {G : Array GenState} {C c : Addr} {m : Str → Option Value} {news : List Cell} {o : Obj} {env : Env} {scope : Scope} {cl : List (Str × Addr)} {x : Str} {v : Value} {pos : Pos} {Q : Value → Shared → Prop}
theorem ldComp (S : St B os G C m news s) (hv : m x = some v) (h : Q v s) (hk : scope.kind = .function := by rfl) (hl : scope.names.lookup x = some .local := by rfl) (hd : (x == ("__debug__" : Str)) = false := by decide) : wpAny M A (eval (.Name x pos) (compEnvC scope cl C env)) Q E s :=
 wpAny_Name (wpAny_loadName_local (by simp [compEnvC, relabel, hk]) (lookup_relabel_local hl) S.F.ns hv h) hd
theorem ldCompCell (S : St B os G C m news s) (hc : cl.lookup x = some c) (hm : (c, o) ∈ news) (hdt : o.data = .cell (some v)) (h : Q v s) (hl : (compEnvC scope cl C env).kindOf x = some .cell) (hk : scope.kind = .function := by rfl) (hd : (x == ("__debug__" : Str)) = false := by decide) : wpAny M A (eval (.Name x pos) (compEnvC scope cl C env)) Q E s :=
 wpAny_Name (wpAny_loadName_cell (by simp [compEnvC, relabel, hk]) hl hc ⟨o, S.get hm, hdt⟩ h) hd
end
end Mine
end
section
open PySem PySem.W PySem.Calls PyProof.Rows PySem.Spec
open PySem.Str (ofString)
namespace Mine
section
variable {prog : Program} {w : World} {A : Around} {E : Value → Shared → Prop} {s s' : Shared} {B : Heap} {os : OsState} {G : Array GenState} {L c D : Addr} {m : Str → Option Value} {news : List Cell} {o : Obj}
end
end Mine
end
section
open PySem PySem.W PySem.Calls PyProof.Rows PySem.Spec
open PySem.Str (ofString)
namespace Mine
section
variable {prog : Program} {w : World} {A : Around} {E : Value → Shared → Prop} {s s' : Shared} {B : Heap} {os : OsState} {G : Array GenState} {L : Addr} {m : Str → Option Value} {news : List Cell} {env : Env} {Q : Value → Shared → Prop} {kk : Nat} {pos : Pos}
theorem cInt {n : Int} (S : St B os G L m news s) (h : ∀ t s', St B os G L m news s' → Q (.int n t) s') : wpAny (model prog w) A (eval (.Constant (.int n) kk pos) env) Q E s := wpAny_Constant_int (h _ _ S.tk)
theorem cStr {x : Str} (S : St B os G L m news s) (h : ∀ t s', St B os G L m news s' → Q (.str x t) s') : wpAny (model prog w) A (eval (.Constant (.str x) kk pos) env) Q E s := wpAny_Constant_str (h _ _ S.tk)
theorem modS {x y : Int} {t u : Tok} (S : St B os G L m news s) (hb : y ≠ 0) (h : ∀ t s', St B os G L m news s' → Q (.int (x.fmod y) t) s') : wpAny (model prog w) A (binaryOp .Mod (.int x t) (.int y u)) Q E s := mod_int' hb (h _ _ S.tk)
theorem subS {x y : Int} {t u : Tok} (S : St B os G L m news s) (h : ∀ t s', St B os G L m news s' → Q (.int (x - y) t) s') : wpAny (model prog w) A (binaryOp .Sub (.int x t) (.int y u)) Q E s := PyProof.Rows.sub_int (h _ _ S.tk)
theorem fdivS {x y : Int} {t u : Tok} (S : St B os G L m news s) (hb : y ≠ 0) (hy : y.natAbs < 1000) (h : ∀ t s', St B os G L m news s' → Q (.int (x.fdiv y) t) s') : wpAny (model prog w) A (binaryOp .FloorDiv (.int x t) (.int y u)) Q E s :=
 floordiv_int hb (h _ _ S.tk) (Or.inl (PyProof.noPylong_small (by lia)))
end
end Mine
namespace Mine
section
variable {prog : Program} {w : World} {A : Around} {E : Value → Shared → Prop} {s s' : Shared} {B : Heap} {os : OsState} {G : Array GenState} {L : Addr} {m : Str → Option Value} {news : List Cell}
end
end Mine
end
section
open PySem PySem.W PySem.Calls PyProof.Rows PySem.Spec
open PySem.Str (ofString)
namespace Mine
noncomputable def NumsAt (B : Heap) (news : List Cell) (a : Addr) (vs : List Value) : Prop := (∃ n, (a, listOf vs.toArray n) ∈ news) ∨ B.IsList a vs.toArray
theorem NumsAt.mono {B : Heap} {news news' : List Cell} {a : Addr} {vs : List Value} (h : NumsAt B news a vs) (hs : ∀ p ∈ news, p ∈ news') : NumsAt B news' a vs := h.imp (fun ⟨n, h⟩ => ⟨n, hs _ h⟩) id
section
variable {prog : Program} {w : World} {A : Around} {E : Value → Shared → Prop} {s s' : Shared} {B : Heap} {os : OsState} {G : Array GenState} {L a c P D : Addr} {m : Str → Option Value} {news news' : List Cell} {o : Obj} {env : Env} {Q : Value → Shared → Prop}
theorem NumsAt.is {a : Addr} {vs : List Value} (h : NumsAt B news a vs) (S : St B os G L m news s) : s.heap.IsList a vs.toArray := by
 rcases h with ⟨n, h⟩ | h
 · exact listOf_isList (S.get h)
 · exact S.F.lst h
theorem iterN {l : Addr} {vs : List Value} (S : St B os G L m news s) (hl : NumsAt B news l vs) (h : ∀ it oit s', LI oit l 0 → St B os G L m ((it, oit) :: news) s' → Q (.ref it) s') : wpAny (model prog w) A (pyIter (.ref l)) Q E s :=
 wpAny_pyIter_list (hl.is S) (h _ _ _ ⟨rfl, rfl⟩ (S.push (t := s.toks) _))
theorem nextN {l it : Addr} {vs : List Value} {i : Nat} {x : Value} {oit : Obj} {news' : Obj → List Cell} {Q : Option Value → Shared → Prop} (S : St B os G L m news s) (hl : NumsAt B news l vs) (U : ∀ o', Up it oit o' news (news' o')) (hi : LI oit l i) (hx : vs.toArray[i]? = some x)
 (h : ∀ o' s', LI o' l (i + 1) → St B os G L m (news' o') s' → Q (some x) s') : wpAny (model prog w) A (pyNext (.ref it)) Q E s := by
 refine wpAny_pyNext_list_item ⟨oit, S.get (U oit).mem, hi.1, hi.2⟩ (hl.is S) hx (fun h' hit hs => ?_)
 obtain ⟨o', e, h1, h2⟩ := hit
 exact h o' _ ⟨h1, h2⟩ (S.same (t := s.toks) (U o') hs e)
theorem endN {l it : Addr} {vs : List Value} {i : Nat} {oit : Obj} {Q : Option Value → Shared → Prop} (hh : A.handled = none) (S : St B os G L m ((it, oit) :: news) s) (hl : NumsAt B news l vs) (hi : LI oit l i) (hx : vs.toArray[i]? = none)
 (h : ∀ s', St B os G L m news s' → Q none s') : wpAny (model prog w) A (pyNext (.ref it)) Q E s := by
 have z := S.N _ (.head _)
 have nd := S.nd
 rw [List.map_cons, List.nodup_cons] at nd
 refine wpAny_pyNext_list_end hh ⟨oit, S.get (.head _), hi.1, hi.2⟩ ((hl.mono fun p hp => .tail _ hp).is S) hx (fun h' hx' => h _ ?_)
 refine ⟨⟨S.F.ns.extBut hx' z.2.1.symm, fun b o e => hx' b o (fun q => by rw [q, z.2.2] at e; cases e) (S.F.keep b o e), S.F.above⟩, fun p hp => ?_, nd.2, S.gens, S.bare, S.os⟩
 have y := S.N p (.tail _ hp)
 exact ⟨hx' _ _ (fun q => nd.1 (by show it ∈ _; rw [← q]; exact List.mem_map_of_mem (f := Prod.fst) hp)) y.1, y.2⟩
noncomputable def Turned (B : Heap) (os : OsState) (L : Addr) (c : Cell) (R : Result → Shared → Prop) (J : List Value → Array GenState → (Str → Option Value) → List Cell → Prop) (rem : List Value) (fl : Flow) (s : Shared) : Prop :=
 match fl with
 | .next | .cont => ∃ G' m' news', J rem G' m' news' ∧ St B os G' L m' (c :: news') s
 | .brk => R (.ok .next) s
 | .ret v => R (.ok (.ret v)) s
inductive JI (B : Heap) (os : OsState) (L it l : Addr) (vs : List Value) (J : List Value → Array GenState → (Str → Option Value) → List Cell → Prop) (k : Nat) (s : Shared) : Prop
 | mk {pre rem G m news oit} (hk : k = rem.length) (hvs : vs = pre ++ rem) (hit : LI oit l pre.length) (hJ : J rem G m news) (S : St B os G L m ((it, oit) :: news) s) : JI B os L it l vs J k s
theorem JI.elim {P : Prop} {it l : Addr} {vs : List Value} {J : List Value → Array GenState → (Str → Option Value) → List Cell → Prop} {k : Nat} (h : JI B os L it l vs J k s)
 (f : ∀ pre rem G m news oit, k = rem.length → vs = pre ++ rem → LI oit l pre.length → J rem G m news → St B os G L m ((it, oit) :: news) s → P) : P := by
 cases h with
 | mk a1 a2 a3 a4 a5 => exact f _ _ _ _ _ _ a1 a2 a3 a4 a5
theorem forCore {R : Result → Shared → Prop} {target : PySem.Expr} {body : List Stmt} {l it : Addr} {oit : Obj} {vs : List Value} (J : List Value → Array GenState → (Str → Option Value) → List Cell → Prop) (hh : A.handled = none)
 (S : St B os G L m ((it, oit) :: news) s) (hit : LI oit l 0) (hJ : J vs G m news) (hl : ∀ {rem G m news}, J rem G m news → NumsAt B news l vs)
 (turn : ∀ v rem G m news oit i s, J (v :: rem) G m news → LI oit l i → St B os G L m ((it, oit) :: news) s →
  wpAny (model prog w) A (letOwnedTupleGo target (.ref it) v) (fun _ s₁ => wpAny (model prog w) A (assign target env v) (fun _ s₂ => wpAny (model prog w) A (execs body env) (Turned B os L (it, oit) R J rem) (notedBy (model prog w) A env fun e s' => R (.error e) s') s₂) (notedBy (model prog w) A env fun e s' => R (.error e) s') s₁) (notedBy (model prog w) A env fun e s' => R (.error e) s') s)
 (fin : ∀ G m news s, J [] G m news → St B os G L m news s → R (.ok .next) s) : codeAny (model prog w) A (.forLoop target (.ref it) body [] env) R s := by
 refine codeAny_forLoop_any (JI B os L it l vs J) ?_ vs.length (.mk (pre := []) rfl rfl hit hJ S)
 intro k s hI
 refine hI.elim (fun pre rem G m news oit ek hvs hit hJ S => ?_)
 clear hI
 cases rem with
 | nil => exact endN hh S (hl hJ) hit (by rw [hvs]; simp) (fun s S => wpAny_execs_nil (fin G m news s hJ S))
 | cons v rem =>
  refine nextN S ((hl hJ).mono fun p hp => .tail _ hp) (fun o' => .head) hit (x := v) (by rw [hvs]; simp) (fun oit' s hit' S => ?_)
  refine wpAny_mono (turn v rem G m news oit' _ s hJ hit' S) (fun _ s₁ h₁ => ?_) fun _ _ z => z
  refine wpAny_mono h₁ (fun _ s₂ h₂ => ?_) fun _ _ z => z
  refine wpAny_mono h₂ (fun fl s₃ h₃ => ?_) fun _ _ z => z
  have go : (∃ G' m' news', J rem G' m' news' ∧ St B os G' L m' ((it, oit') :: news') s₃) → ∃ j, j < k ∧ JI B os L it l vs J j s₃ := fun ⟨G', m', news', hJ', S'⟩ => ⟨rem.length, by rw [ek]; exact Nat.lt_succ_self _, .mk (pre := pre ++ [v]) rfl (by rw [hvs]; simp) (by rw [List.length_append]; exact hit') hJ' S'⟩
  cases fl with
  | next => exact go h₃
  | cont => exact go h₃
  | brk => exact h₃
  | ret v => exact h₃
theorem forL {R : Result → Shared → Prop} {x : Str} {px : Pos} {body : List Stmt} {qual : Str} {scope : Scope} {f : Addr} {cd : Value} {l it : Addr} {oit : Obj} {vs : List Value} {n : Nat} (J : List Value → Array GenState → (Str → Option Value) → List Cell → Prop) (hh : A.handled = none)
 (S : St B os G L m ((it, oit) :: news) s) (hit : LI oit l 0) (hJ : J vs G m news) (hl : ∀ {rem G m news}, J rem G m news → (l, listOf vs.toArray n) ∈ news)
 (turn : ∀ v rem G m news oit s, J (v :: rem) G m news → St B os G L (updM m x v) ((it, oit) :: news) s →
  wpAny (model prog w) A (execs body (envOf qual scope L f cd)) (Turned B os L (it, oit) R J rem) (notedBy (model prog w) A (envOf qual scope L f cd) fun e s' => R (.error e) s') s)
 (fin : ∀ G m news s, J [] G m news → St B os G L m news s → R (.ok .next) s)
 (hk : scope.kind = .function := by rfl) (hx : (envOf qual scope L f cd).kindOf x = some .local := by rfl) :
 codeAny (model prog w) A (.forLoop (.Name x px) (.ref it) body [] (envOf qual scope L f cd)) R s :=
 forCore J hh S hit hJ (fun h => .inl ⟨n, hl h⟩) (fun v rem G m news oit _ s hJ _ S => wpAny_pure (wpAny_assign_Name (stS S (fun s S => turn v rem G m news oit s hJ S) hk hx))) fin
theorem itemL {value slice : PySem.Expr} {D : Addr} {l : List Value} {x : Value} {n : Nat} {k : Int} {u : Tok} (S : St B os G L m news s) (hl : (D, listOf l.toArray n) ∈ news) (h0 : 0 ≤ k) (hk : l[k.toNat]? = some x) (h : Q x s)
 (hs : subscripted slice false (.ref D) (.int k u) = operate [.ref D, .int k u] (getItem (.ref D) (.int k u)) := by with_unfolding_all rfl) (hz : l.length ≤ 1000 := by simp) : wpAny (model prog w) A (subscriptTail value slice (.ref D) (.int k u)) Q E s := by
 have hlt : k.toNat < l.length := (List.getElem?_eq_some_iff.mp hk).1
 refine subscriptTail_builtinR (listOf_isList (S.get hl)).typeIs slot_list_getitem.lookup (wpAny_getItem_list (Q := fun r s' => r = x ∧ Q r s') (listOf_isList (S.get hl)) h0 (by lia) (by simpa using hk) ⟨rfl, h⟩) hs
end
end Mine
end
section
open PySem PySem.W PySem.Calls PyProof.Rows PySem.Spec
open PySem.Str (ofString)
namespace Mine
section
variable {prog : Program} {w : World} {A : Around} {E : Value → Shared → Prop} {s s' : Shared} {B : Heap} {os : OsState} {G : Array GenState} {L C a c D : Addr} {m mC : Str → Option Value} {news news' : List Cell} {o oL : Obj} {Q : Value → Shared → Prop} {pos : Pos}
theorem St.lost {it : Addr} {oit : Obj} (S : St B os G L m ((it, oit) :: news) s) {h' : Heap} {t : Nat} (hx' : Heap.ExtBut it s.heap h') : St B os G L m news { s with heap := h', toks := t } := by
 have z := S.N _ (.head _)
 have nd := S.nd
 rw [List.map_cons, List.nodup_cons] at nd
 refine ⟨⟨S.F.ns.extBut hx' z.2.1.symm, fun b o e => hx' b o (fun q => by rw [q, z.2.2] at e; cases e) (S.F.keep b o e), S.F.above⟩, fun p hp => ?_, nd.2, S.gens, S.bare, S.os⟩
 have y := S.N p (.tail _ hp)
 exact ⟨hx' _ _ (fun q => nd.1 (by show it ∈ _; rw [← q]; exact List.mem_map_of_mem (f := Prod.fst) hp)) y.1, y.2⟩
end
end Mine
namespace Mine
section
variable {prog : Program} {w : World} {A : Around} {E : Value → Shared → Prop} {s s' : Shared} {B : Heap} {os : OsState} {G : Array GenState} {L : Addr} {m : Str → Option Value} {news news' : List Cell}
end
end Mine
end
section
open PySem PySem.W PySem.Calls PyProof.Rows
open AutoSeq1 (wpAny_loadPart')
open PySem.Str (ofString)
namespace Mine
noncomputable abbrev txs (l : List (Str × Tok)) : List Str := l.map (·.1)
theorem sv_get (l : List (Str × Tok)) (i : Nat) : (strValues l).toArray[((i : Nat) : Int).toNat]? = (l[i]?).map fun p => Value.str p.1 p.2 := by
 simp [strValues]
theorem sv_size (l : List (Str × Tok)) : (strValues l).toArray.size = l.length := by simp [strValues]
theorem lLt_cons (x y : Str) (a b : List Str) : lLt (x :: a) (y :: b) = if x = y then lLt a b else sLt x y := by rw [lLt]
theorem lt_loop (a b : Addr) (l1 l2 : List (Str × Tok)) (n n2 : Nat) (k : Nat) :
 ∀ i : Nat, l1.length - i = k → i ≤ l1.length → i ≤ l2.length → Meets (Builtin.«list.__eq__.loop» ⟨[.ref a, .ref b, rawInt i, rawInt 0], []⟩)
  (fun _ R s => s.heap.get? a = some (listOf (strValues l1).toArray n) ∧ s.heap.get? b = some (listOf (strValues l2).toArray n2) ∧
   R (.ok (.ret (.bool (lLt (txs (l1.drop i)) (txs (l2.drop i)))))) s) := by
 induction k with
 | zero =>
  intro i hk h1 h2 prog w A R s h
  obtain ⟨hp, g, d, tk, os⟩ := s; obtain ⟨hl, hb, h⟩ := h
  wp_walk using wpAny_loadPart' hl, wpAny_loadPart' hb
  have e1 : l1[i]? = none := by simp; lia
  have d1 : l1.drop i = [] := by simp; lia
  rw [sv_get, sv_get, e1]
  show wpAny _ _ (Builtin.List.listItems (.ref a) >>= _) _ _ _
  wp_walk using wpAny_loadPart' hl, wpAny_loadPart' hb
  show R (.ok (.ret (.bool (decide ((strValues l1).toArray.size < (strValues l2).toArray.size))))) _
  rw [sv_size, sv_size]
  rw [d1] at h
  cases hd : l2.drop i with
  | nil =>
   rw [hd] at h
   have : l2.length ≤ i := by simpa using hd
   rw [decide_eq_false (by lia)]
   exact h
  | cons y r =>
   rw [hd] at h
   have : i < l2.length := by
    have := congrArg List.length hd
    simp at this; lia
   rw [decide_eq_true (by lia)]
   exact h
 | succ k ih =>
  intro i hk h1 h2 prog w A R s h
  obtain ⟨hp, g, d, tk, os⟩ := s; obtain ⟨hl, hb, h⟩ := h
  wp_walk using wpAny_loadPart' hl, wpAny_loadPart' hb
  have hlt : i < l1.length := by lia
  obtain ⟨x, hx⟩ : ∃ x, l1[i]? = some x := ⟨l1[i], by simp [hlt]⟩
  have d1 : l1.drop i = x :: l1.drop (i + 1) := by
   rw [List.drop_eq_getElem_cons hlt]; congr 1; rw [List.getElem?_eq_getElem hlt] at hx; exact Option.some.inj hx
  by_cases hlt2 : i < l2.length
  · obtain ⟨y, hy⟩ : ∃ x, l2[i]? = some x := ⟨l2[i], by simp [hlt2]⟩
    have d2 : l2.drop i = y :: l2.drop (i + 1) := by
     rw [List.drop_eq_getElem_cons hlt2]; congr 1; rw [List.getElem?_eq_getElem hlt2] at hy; exact Option.some.inj hy
    rw [d1, d2, show txs (x :: l1.drop (i + 1)) = x.1 :: txs (l1.drop (i + 1)) from rfl, show txs (y :: l2.drop (i + 1)) = y.1 :: txs (l2.drop (i + 1)) from rfl, lLt_cons] at h
    rw [sv_get, sv_get, hx, hy]
    show wpAny _ _ (eqBool (.str x.1 x.2) (.str y.1 y.2) >>= _) _ _ _
    refine wpAny_bind (wpAny_eqBool_str ?_)
    have hc : ((i : Int) + 1) = ((i + 1 : Nat) : Int) := by push_cast; rfl
    by_cases e : x.1 = y.1
    · rw [if_pos e] at h
      rw [decide_eq_true e]
      wp_walk
      rw [hc]
      exact ⟨plainId_quiet MeetsSeq3.plain_eq_loop _, codeAny_builtin MeetsSeq3.entry_eq_loop (by
       rw [Around.under_plainId MeetsSeq3.plain_eq_loop _]
       exact ih (i + 1) (by lia) (by lia) (by lia) prog w A R _ ⟨hl, hb, h⟩)⟩
    · rw [if_neg e] at h
      rw [decide_eq_false e]
      wp_walk using wpAny_loadPart' hl, wpAny_loadPart' hb
      rw [sv_get, sv_get, hx, hy]
      show wpAny _ _ (richCompare .Lt (.str x.1 x.2) (.str y.1 y.2) >>= _) _ _ _
      refine wpAny_bind (PyProof.Rows.lt_str ?_)
      exact wpAny_pure h
  · have hd : l2.drop i = [] := by simp; lia
    have e2 : l2[i]? = none := by simp; lia
    rw [sv_get, sv_get, hx, e2]
    show wpAny _ _ (Builtin.List.listItems (.ref a) >>= _) _ _ _
    wp_walk using wpAny_loadPart' hl, wpAny_loadPart' hb
    show R (.ok (.ret (.bool (decide ((strValues l1).toArray.size < (strValues l2).toArray.size))))) _
    rw [sv_size, sv_size, decide_eq_false (by lia)]
    rw [d1, hd] at h
    exact h
theorem list_lt (a b : Addr) (l1 l2 : List (Str × Tok)) (n n2 : Nat) : Meets (Builtin.«list.__lt__» ⟨[.ref a, .ref b], []⟩)
 (fun _ R s => s.heap.get? a = some (listOf (strValues l1).toArray n) ∧ s.heap.get? b = some (listOf (strValues l2).toArray n2) ∧ R (.ok (.ret (.bool (lLt (txs l1) (txs l2))))) s) := by
 intro prog w A R s h
 obtain ⟨hp, g, d, tk, os⟩ := s; obtain ⟨hl, hb, h⟩ := h
 have f3 := AutoSeq1.sub_list_list
 wp_walk using wpAny_loadPart' hl, wpAny_loadPart' hb
 exact ⟨plainId_quiet MeetsSeq3.plain_eq_loop _, codeAny_builtin MeetsSeq3.entry_eq_loop (by
  rw [Around.under_plainId MeetsSeq3.plain_eq_loop _]
  exact lt_loop a b l1 l2 n n2 _ 0 rfl (Nat.zero_le _) (Nat.zero_le _) prog w A R _ ⟨hl, hb, h⟩)⟩
section
variable {prog : Program} {w : World} {A : Around} {E : Value → Shared → Prop} {s : Shared}
theorem askList {a b : Addr} {l1 l2 : List (Str × Tok)} {n n2 : Nat} {Q : Bool → Shared → Prop} (hu : A.units < cLine) (hl : s.heap.get? a = some (listOf (strValues l1).toArray n)) (hb : s.heap.get? b = some (listOf (strValues l2).toArray n2))
 (h : Q (lLt (txs l1) (txs l2)) s) : wpAny (model prog w) A (keyLt' oneType' (.ref a) (.ref b)) Q E s := by
 have hT : s.TypeIs (.ref a) "list" := ⟨_, hl, rfl⟩
 rw [keyLt'_oneType, oneLt'_eq]
 simp only [if_true]
 refine wpAny_bind (wpAny_cRoomFor hu ?_)
 refine wpAny_bind (wpAny_callSpecialIfBound?_slot (name := ofString "__lt__") hT F.slot_list_lt ?_)
 refine call_meets F.slot_list_lt hT F.entry_list_lt (F.args_list_lt_2 _ _) (list_lt a b l1 l2 n n2) ⟨hl, hb, ?_⟩
 exact wpAny_truthy_bool h
end
end Mine
end
section
open PySem PySem.W PySem.Calls PyProof.Rows
open PySem.Str (ofString)
namespace Mine
noncomputable abbrev Item := Value × List Str
noncomputable abbrev ikey (x : Item) : List Str := x.2
section
variable {prog : Program} {w : World} {A : Around} {E : Value → Shared → Prop} {s s' : Shared} {B : Heap} {os : OsState} {G : Array GenState} {L a : Addr} {m : Str → Option Value} {news : List Cell} {items : List Item}
theorem lsort_short : ∀ {l : List Item}, l.length < 2 → lsort ikey l = l
 | [], _ => rfl
 | [_], _ => rfl
 | _ :: _ :: _, h => absurd h (by simp)
theorem sortWalk {κ : SortKind} {G' : Array Nat → Shared → Prop} (hnd : (items.map (·.2)).Nodup) (h1 : 1 ≤ items.length)
 (ask : ∀ x ∈ items, ∀ y ∈ items, ∀ Q : Bool → Shared → Prop, Q (lLt x.2 y.2) s → wpAny (model prog w) A (keyLt' κ x.1 y.1) Q (fun _ _ => False) s) {ks : List Value} (hk : ks = items.map (·.1))
 (h : ∀ p, p.size = items.length → (∀ (α : Type) (l : List α) (key : α → List Str) (d : α), l.map key = items.map (·.2) → key d = [] → p.toList.map (fun i => l.getD i d) = lsort key l) → G' p s) : (kas_sort items.length).kasWp (kas_ask prog w A κ ks) G' s := by
 subst hk
 refine pw_wp (n := items.length) (lt := fun i j => lLt (ikey (items.getD i (.none, []))) (ikey (items.getD j (.none, [])))) (I := fun s' => s' = s) (fun i j C s' hi hj e k => ?_) _ s rfl (sortP (ordn_of ikey _ hnd) h1 fun p ar up => ?_)
 · subst e
   unfold kas_ask
   have e : ∀ i, i < items.length → (items.map (·.1)).getD i Value.none = (items.getD i (.none, [])).1 ∧ items.getD i (.none, []) ∈ items := fun i hi => by
    have : items.getD i (.none, []) = items[i] := by simp [hi]
    rw [this]
    exact ⟨by simp [hi], List.getElem_mem _⟩
   rw [(e i hi).1, (e j hj).1]
   exact ask _ (e i hi).2 _ (e j hj).2 _ (k _ rfl)
 · rintro s' rfl
   refine h p ar.size fun α l key d hl hd => ?_
   have e : (fun i j => lLt (ikey (items.getD i (.none, []))) (ikey (items.getD j (.none, [])))) = fun i j => lLt (key (l.getD i d)) (key (l.getD j d)) := by
    have e1 : ∀ i, ikey (items.getD i (.none, [])) = key (l.getD i d) := fun i => by
     have z := congrArg (fun q => q.getD i []) hl
     simp only [List.getD_eq_getElem?_getD, List.getElem?_map] at z ⊢
     cases q1 : l[i]? <;> cases q2 : items[i]? <;> simp only [q1, q2, Option.map_none, Option.map_some, Option.getD_none, Option.getD_some] at z ⊢
     · rw [hd]
     · rw [hd]; exact z.symm
     · rw [z]
     · exact z.symm
    funext i j
    rw [e1, e1]
   have hlen : items.length = l.length := by simpa using (congrArg List.length hl).symm
   rw [e, hlen] at up
   rw [hlen] at ar
   exact arr_out key d ar up
theorem sortS {κ : SortKind} {n : Nat} {P : PySem.Fin → Shared → Prop} (S : St B os G L m ((a, listOf (items.map (·.1)).toArray n) :: news) s) (hnd : (items.map (·.2)).Nodup) (h64 : items.length < 64)
 (kind : ∀ e1 s', 2 ≤ items.length → St B os G L m ((a, listOf #[] e1) :: news) s' → ∀ Q : SortKind → Shared → Prop, Q κ s' → wpAny (model prog w) A (keyKind' (items.map (·.1)).toArray) Q (fun _ _ => False) s')
 (ask : ∀ e1 s', St B os G L m ((a, listOf #[] e1) :: news) s' → ∀ x ∈ items, ∀ y ∈ items, ∀ Q : Bool → Shared → Prop, Q (lLt x.2 y.2) s' → wpAny (model prog w) A (keyLt' κ x.1 y.1) Q (fun _ _ => False) s')
 (h : ∀ n' s', St B os G L m ((a, listOf ((lsort ikey items).map (·.1)).toArray n') :: news) s' → P (.done (.ret .none)) s') : wpAny (model prog w) A (Builtin.«list.sort» ⟨[.ref a], []⟩) P E s := by
 by_cases h2 : 2 ≤ items.length
 · have z := S.N _ (.head _)
   have nd := S.nd
   rw [List.map_cons, List.nodup_cons] at nd
   refine kat_list_sort (vs := items.map (·.1)) S.F (fun p hp => S.N p (.tail _ hp)) z.1 z.2.1 z.2.2 (fun p hp e => nd.1 (by show a ∈ _; rw [← e]; exact List.mem_map_of_mem (f := Prod.fst) hp)) (by simpa using h2) (by simpa using h64) (fun e1 h' F' N' => ?_)
   have S1 : St B os G L m ((a, listOf #[] e1) :: news) { s with heap := h' } := S.to F' N' rfl
   refine kind e1 _ h2 S1 _ ?_
   rw [List.length_map]
   refine sortWalk hnd (by lia) (ask e1 _ S1) rfl (fun p hp e => ?_)
   have e' : (p.toList.map fun i => (items.map (·.1)).getD i Value.none) = (lsort ikey items).map (·.1) := by
    rw [← e Item items ikey (.none, []) rfl rfl, List.map_map]
    refine List.map_congr_left fun i hi => ?_
    simp only [Function.comp, List.getD_eq_getElem?_getD, List.getElem?_map]
    cases items[i]? <;> rfl
   rw [e']
   exact KasFin.intro S1.F S1.N (upF (fun o' => Up.head) S1.nd) fun h'' c F'' N'' => h c _ (S1.to (s' := { s with heap := h'' }) F'' N'' rfl)
 · rw [list_sort_plain]
   have e := lsort_short (l := items) (by lia)
   rw [e] at h
   refine wpAny_bind (listItems_at (S.get (.head _)) rfl ?_)
   refine wpAny_bind (updL S (fun n' => Up.head) (fun n1 s S => ?_) (by rw [PySem.sizeLine_eq]; simp; lia) (by decide))
   refine wpAny_bind (seqEpoch_at (S.get (.head _)) rfl ?_)
   refine wpAny_bind (tupS S (fun tp s S => ?_))
   have S := S.drop (List.sublist_cons_self _ _)
   refine wpAny_bind (listS S (fun ks s S => ?_))
   have S := S.drop (List.sublist_cons_self _ _)
   refine wpAny_holding ?_
   have hz : (items.map (·.1)).toArray.size < 2 := by simp; lia
   dsimp only
   rw [if_pos hz, if_pos hz]
   refine wpAny_bind (wpAny_pure ?_)
   rw [StateT.run_pure]
   refine wpAny_bind (wpAny_pure ?_)
   dsimp only
   refine wpAny_bind (seqEpoch_at (S.get (.head _)) rfl ?_)
   have ea : (arrOf (SortSt.mk' general' ((items.map (·.1)).toArray.zip (items.map (·.1)).toArray) #[] 7 none)).map (·.2) = (items.map (·.1)).toArray := by
    show ((items.map (·.1)).toArray.zip (items.map (·.1)).toArray).map (·.2) = _
    refine Array.ext (by simp) fun i h1 h2 => ?_
    simp
   rw [ea]
   refine wpAny_bind (updL (f := fun _ => (items.map (·.1)).toArray) S (fun n' => Up.head) (fun n4 s S => ?_) (by decide) (by rw [PySem.sizeLine_eq]; simp; lia))
   simp only [bne_self_eq_false, Bool.false_eq_true, if_false]
   exact wpAny_pure (h _ _ S)
end
section
variable {prog : Program} {w : World} {A : Around} {E : Value → Shared → Prop} {s s' : Shared} {B : Heap} {os : OsState} {G : Array GenState} {L a f kS : Addr} {m : Str → Option Value} {news : List Cell} {items : List Item}
noncomputable def KeyAt (T : Bool) (c : List Cell) (v : Value) (k : List Str) : Prop :=
 match T with
 | true => ∃ x u, v = .str x u ∧ k = [x]
 | false => ∃ kk l n, v = .ref kk ∧ k = txs l ∧ (kk, listOf (strValues l).toArray n) ∈ c
theorem KeyAt.mono {T : Bool} {c c' : List Cell} {v : Value} {k : List Str} (h : KeyAt T c v k) (hs : ∀ p ∈ c, p ∈ c') : KeyAt T c' v k := by
 cases T with
 | true => exact h
 | false => exact h.elim fun kk h => h.elim fun l h => h.elim fun n h => ⟨kk, l, n, h.1, h.2.1, hs _ h.2.2⟩
inductive KeyL (T : Bool) (c : List Cell) : List Value → List (List Str) → Prop
 | nil : KeyL T c [] []
 | cons {v : Value} {k : List Str} {vs : List Value} {ks : List (List Str)} : KeyAt T c v k → KeyL T c vs ks → KeyL T c (v :: vs) (k :: ks)
theorem KeyL.snoc {T : Bool} {c c' : List Cell} {v : Value} {k : List Str} (x : KeyAt T c' v k) (h : ∀ p ∈ c, p ∈ c') {vs : List Value} {ks : List (List Str)} (hl : KeyL T c vs ks) : KeyL T c' (vs ++ [v]) (ks ++ [k]) := by
 induction hl with
 | nil => exact .cons x .nil
 | cons y _ ih => exact .cons (y.mono h) ih
theorem KeyL.zip {T : Bool} {c : List Cell} {vs : List Value} {ks : List (List Str)} (hl : KeyL T c vs ks) : ∃ it : List Item, it.map (·.1) = vs ∧ it.map (·.2) = ks ∧ ∀ x ∈ it, KeyAt T c x.1 x.2 := by
 induction hl with
 | nil => exact ⟨[], rfl, rfl, fun _ h => nomatch h⟩
 | @cons v k _ _ x _ ih =>
  obtain ⟨it, e1, e2, e3⟩ := ih
  exact ⟨(v, k) :: it, by simp [e1], by simp [e2], fun y hy => (List.mem_cons.mp hy).elim (fun e => e ▸ x) (e3 y)⟩
theorem lLt_one (x y : Str) : lLt [x] [y] = sLt x y := by
 unfold lLt
 by_cases h : x = y
 · rw [if_pos h, h, sLt_irr]; rfl
 · rw [if_neg h]
theorem keysS {T : Bool} {Fin : List Value → Nat → Shared → Prop} {e1 : Nat}
 (turn : ∀ x ∈ items, ∀ own s', St B os G L m (own ++ news) s' → wpAny (model prog w) A (call (.ref f) [x.1]) (fun r s₂ => ∃ c', KeyAt T c' r x.2 ∧ St B os G L m (c' ++ (own ++ news)) s₂) (fun _ _ => False) s')
 (fin : ∀ ks e kc s', KeyL T kc ks (items.map (·.2)) → St B os G L m ((kS, listOf ks.toArray e) :: (a, listOf #[] e1) :: (kc ++ news)) s' → Fin ks e s') (r : List Item) :
 ∀ (done : List Item) (ks : List Value) (e : Nat) (kc : List Cell) (s : Shared), done ++ r = items → KeyL T kc ks (done.map (·.2)) → St B os G L m ((kS, listOf ks.toArray e) :: (a, listOf #[] e1) :: (kc ++ news)) s →
  KatKeys prog w A B L m kS (.ref f) Fin (r.map (·.1)) ks e s := by
 induction r with
 | nil => exact fun done ks e kc s hd hk S => KatKeys.nil (fin ks e kc s (by rw [List.append_nil] at hd; rw [← hd]; exact hk) S)
 | cons x r ih =>
  intro done ks e kc s hd hk S
  refine KatKeys.cons (wpAny_mono (turn x (by rw [← hd]; exact List.mem_append_right _ (.head _)) ((kS, listOf ks.toArray e) :: (a, listOf #[] e1) :: kc) s S) ?_ fun _ _ z => z)
  rintro v s₂ ⟨c', hk', S2⟩
  refine KatBack.intro S2.F S2.N (upF (fun o' => Up.head.pre c') S2.nd) (fun h' c F' N' => ?_)
  have S3 : St B os G L m (c' ++ ((kS, listOf (ks ++ [v]).toArray c) :: ((a, listOf #[] e1) :: (kc ++ news)))) { s₂ with heap := h' } := S2.to F' N' (by simp)
  refine ih (done ++ [x]) (ks ++ [v]) c (c' ++ kc) _ (by rw [← hd]; simp) ?_ ((St.perm (news' := (kS, listOf (ks ++ [v]).toArray c) :: (a, listOf #[] e1) :: (c' ++ (kc ++ news))) S3 (permI [.inr _, .inl _, .inl _] _ [0, 1, 2] [1, 2, 0] rfl)).cast (by rw [List.append_assoc]))
  rw [List.map_append, List.map_singleton]
  exact hk.snoc (hk'.mono fun p hp => List.mem_append_left _ hp) fun p hp => List.mem_append_right _ hp
theorem sortKS {T : Bool} {n : Nat} {P : PySem.Fin → Shared → Prop} (hu : T = false → A.units < cLine) (S : St B os G L m ((a, listOf (items.map (·.1)).toArray n) :: news) s) (hnd : (items.map (·.2)).Nodup) (h64 : items.length < 64)
 (turn : ∀ x ∈ items, ∀ own s', St B os G L m (own ++ news) s' → wpAny (model prog w) A (call (.ref f) [x.1]) (fun r s₂ => ∃ c', KeyAt T c' r x.2 ∧ St B os G L m (c' ++ (own ++ news)) s₂) (fun _ _ => False) s')
 (h : ∀ n' s', St B os G L m ((a, listOf ((lsort ikey items).map (·.1)).toArray n') :: news) s' → P (.done (.ret .none)) s') : wpAny (model prog w) A (ksk_tree a (.ref f) false) P E s := by
 by_cases h2 : 2 ≤ items.length
 · have z := S.N _ (.head _)
   have nd := S.nd
   rw [List.map_cons, List.nodup_cons] at nd
   refine kat_keyed (vs := items.map (·.1)) S.F (fun p hp => S.N p (.tail _ hp)) z.1 z.2.1 z.2.2 (fun p hp e => nd.1 (by show a ∈ _; rw [← e]; exact List.mem_map_of_mem (f := Prod.fst) hp)) (by simpa using h2) (by simpa using h64) (fun kS e1 h' F' N' l1 l2 => ?_)
   have S1 : St B os G L m ((kS, listOf #[] 0) :: (a, listOf #[] e1) :: news) { s with heap := h' } := by
    refine ⟨F', N', ?_, S.gens, S.bare, S.os⟩
    rw [List.map_cons, List.nodup_cons]
    refine ⟨fun hm => ?_, S.nd⟩
    rcases List.mem_cons.mp hm with e | e
    · exact absurd l1 (by rw [show kS = a from e]; exact Nat.lt_irrefl _)
    · obtain ⟨p, hp, e⟩ := List.mem_map.mp e
      exact absurd (l2 p hp) (by rw [e]; exact Nat.lt_irrefl _)
   refine keysS (kS := kS) (a := a) (e1 := e1) turn (fun ks e kc s' hk S' => ?_) items [] [] 0 [] _ rfl .nil S1
   obtain ⟨it, i1, i2, i3⟩ := hk.zip
   have hl : it.length = items.length := by simpa using congrArg List.length i2
   refine kas_kind (T := .type (bif T then "str" else "list")) (by rw [← i1, List.length_map]; lia) (fun v hv => ?_) (by cases T <;> decide) (by cases T <;> decide) ?_
   · rw [← i1] at hv
     obtain ⟨x, hx, ev⟩ := List.mem_map.mp hv
     have hk := i3 x hx
     rw [ev] at hk
     cases T with
     | true => exact hk.elim fun y h => h.elim fun u h => h.1 ▸ Looks.now
     | false => exact hk.elim fun k h => h.elim fun l h => h.elim fun n h => h.1 ▸ (Looks.ld (S'.get (.tail _ (.tail _ (List.mem_append_left _ h.2.2))))).andThen .now
   · rw [List.length_map, ← hl]
     show (kas_sort it.length).kasWp (kas_ask prog w A oneType' ks) _ _
     refine sortWalk (by rw [i2]; exact hnd) (by lia) (fun x hx y hy Q hQ => ?_) i1.symm (fun p hp e => ?_)
     · have k1 := i3 x hx
       have k2 := i3 y hy
       cases T with
       | true =>
        obtain ⟨x1, u1, ex, ek⟩ := k1
        obtain ⟨y1, v1, ey, ej⟩ := k2
        rw [ex, ey]
        refine kas_lt_str ?_
        rw [ek, ej, lLt_one] at hQ
        exact hQ
       | false =>
        obtain ⟨k, l, n, ex, ek, hm⟩ := k1
        obtain ⟨k', l', n', ey, ej, hm'⟩ := k2
        rw [ex, ey]
        rw [ek, ej] at hQ
        exact askList (hu rfl) (S'.get (.tail _ (.tail _ (List.mem_append_left _ hm)))) (S'.get (.tail _ (.tail _ (List.mem_append_left _ hm')))) hQ
     · have e' : (katRev false (p.toList.map fun i => (katRev false (items.map (·.1))).getD i Value.none)) = (lsort ikey items).map (·.1) := by
        show (p.toList.map fun i => (items.map (·.1)).getD i Value.none) = _
        rw [← e Item items ikey (.none, []) i2.symm rfl, List.map_map]
        refine List.map_congr_left fun i hi => ?_
        simp only [Function.comp, List.getD_eq_getElem?_getD, List.getElem?_map]
        cases items[i]? <;> rfl
       rw [e']
       refine KatFin.intro S'.F S'.N (upF (fun o' => Up.head) S'.nd) (fun h' c F' N' => ?_)
       have S2 : St B os G L m ((kS, listOf #[] c) :: (a, listOf #[] e1) :: (kc ++ news)) { s' with heap := h' } := S'.to F' N' rfl
       refine KasFin.intro S2.F S2.N (upF (fun o' => Up.tail Up.head) S2.nd) fun h'' c' F'' N'' => ?_
       have S3 : St B os G L m ((kS, listOf #[] c) :: (a, listOf ((lsort ikey items).map (·.1)).toArray c') :: (kc ++ news)) { s' with heap := h'' } := S2.to F'' N'' rfl
       exact h c' _ (S3.drop ((List.Sublist.cons_cons _ (List.sublist_append_right _ _)).cons _))
 · cases items with
   | nil =>
    unfold ksk_tree
    refine wpAny_bind (listItems_at (S.get (.head _)) rfl ?_)
    refine wpAny_bind (updL S (fun n' => Up.head) (fun n1 s S => ?_) (by rw [PySem.sizeLine_eq]; simp) (by decide))
    refine wpAny_bind (seqEpoch_at (S.get (.head _)) rfl ?_)
    refine wpAny_bind (tupS S (fun tp s S => ?_) (hsz := by rw [PySem.sizeLine_eq]; simp))
    have S := S.drop (List.sublist_cons_self _ _)
    refine wpAny_bind (listS S (fun ks s S => ?_))
    refine wpAny_holding ?_
    unfold ksk_rest
    refine wpAny_bind (wpAny_rule ?_)
    rw [← Array.forIn_toList]
    refine wpAny_bind ?_
    show wpAny _ _ (forIn [] PUnit.unit _) _ _ _
    rw [List.forIn_nil]
    refine wpAny_pure ?_
    refine wpAny_bind (listItems_at (S.get (.head _)) rfl ?_)
    unfold ksk_end
    refine KFB.if_not rfl ?_
    dsimp only
    rw [if_pos (by show 0 < 2; decide)]
    refine wpAny_bind (wpAny_pure ?_)
    rw [if_pos (by show 0 < 2; decide), if_neg Bool.false_ne_true]
    refine wpAny_bind (wpAny_pure ?_)
    dsimp only
    unfold ksk_tail
    refine wpAny_bind (updL S (fun n' => Up.head) (fun n3 s S => ?_) (by rw [PySem.sizeLine_eq]; simp) (by decide))
    refine wpAny_bind (wpAny_letGo ?_)
    refine wpAny_bind (seqEpoch_at (S.get (.tail _ (.head _))) rfl ?_)
    have ea : (arrOf (SortSt.mk' general' ((#[] : Array Value).zip (List.map (·.1) ([] : List Item)).toArray) #[] 7 none)).map (·.2) = #[] := by first | rfl | kernel_rfl | simp [arrOf, SortSt.mk']
    simp only [Bool.false_eq_true, if_false, ea]
    refine wpAny_bind (updL (f := fun _ => #[]) S (fun n' => Up.tail Up.head) (fun n4 s S => ?_) (by decide) (by rw [PySem.sizeLine_eq]; simp))
    refine KFB.if_not (by simp) ?_
    exact wpAny_pure (h n4 _ (S.drop (List.sublist_cons_self _ _)))
   | cons x r =>
    cases r with
    | cons y r => exact absurd (by simp) h2
    | nil =>
    have e := lsort_short (l := [x]) (by simp)
    rw [e] at h
    unfold ksk_tree
    refine wpAny_bind (listItems_at (S.get (.head _)) rfl ?_)
    refine wpAny_bind (updL S (fun n' => Up.head) (fun n1 s S => ?_) (by rw [PySem.sizeLine_eq]; simp) (by decide))
    refine wpAny_bind (seqEpoch_at (S.get (.head _)) rfl ?_)
    refine wpAny_bind (tupS S (fun tp s S => ?_))
    have S := S.drop (List.sublist_cons_self _ _)
    refine wpAny_bind (listS S (fun ks s S => ?_))
    refine wpAny_holding ?_
    unfold ksk_rest
    refine wpAny_bind (wpAny_rule ?_)
    rw [← Array.forIn_toList]
    refine wpAny_bind ?_
    show wpAny _ _ (forIn [x.1] PUnit.unit _) _ _ _
    rw [List.forIn_cons]
    refine wpAny_bind (wpAny_bind (wpAny_attempt (wpAny_mono (turn x (.head _) [(ks, _), (a, _)] _ S) ?_ fun _ _ hF => hF.elim)))
    rintro v s ⟨c', _, S⟩
    replace S := S.drop (List.sublist_append_right c' _)
    dsimp only
    refine wpAny_bind (updL S (fun n' => Up.head) (fun n2 s S => wpAny_pure ?_) (by decide) (by rw [PySem.sizeLine_eq]; simp))
    show wpAny _ _ (forIn [] PUnit.unit _) _ _ _
    rw [List.forIn_nil]
    refine wpAny_pure ?_
    refine wpAny_bind (listItems_at (S.get (.head _)) rfl ?_)
    unfold ksk_end
    refine KFB.if_not rfl ?_
    dsimp only
    rw [if_pos (by show 1 < 2; decide)]
    refine wpAny_bind (wpAny_pure ?_)
    rw [if_pos (by show 1 < 2; decide), if_neg Bool.false_ne_true]
    refine wpAny_bind (wpAny_pure ?_)
    dsimp only
    unfold ksk_tail
    refine wpAny_bind (updL S (fun n' => Up.head) (fun n3 s S => ?_) (by rw [PySem.sizeLine_eq]; simp) (by decide))
    refine wpAny_bind (wpAny_letGo ?_)
    refine wpAny_bind (seqEpoch_at (S.get (.tail _ (.head _))) rfl ?_)
    have ea : (arrOf (SortSt.mk' general' ((#[].push v).zip ([x].map (·.1)).toArray) #[] 7 none)).map (·.2) = #[x.1] := by first | rfl | kernel_rfl | simp [arrOf, SortSt.mk']
    simp only [Bool.false_eq_true, if_false, ea]
    refine wpAny_bind (updL (f := fun _ => #[x.1]) S (fun n' => Up.tail Up.head) (fun n4 s S => ?_) (by decide) (by rw [PySem.sizeLine_eq]; simp))
    refine KFB.if_not (by simp) ?_
    exact wpAny_pure (h n4 _ (S.drop (List.sublist_cons_self _ _)))
end
section
variable {prog : Program} {w : World} {A : Around} {E : Value → Shared → Prop} {s s' : Shared} {a : Addr}
noncomputable abbrev entS (prog : Program) (w : World) (p : Str × Tok) : Int × Value := ((strKind prog w).hash p.1, .str p.1 p.2)
structure SetP (prog : Program) (w : World) (o : Obj) (l : List (Str × Tok)) : Prop where
 ex : ∃ es ep tb, o = (⟨.type "set", none, .set es ep tb, #[]⟩ : Obj) ∧ tb.fits es.size = true ∧ es.toList.Perm (l.map (entS prog w)) ∧ tb.plain = false
theorem elems_of {l : List (Str × Tok)} {es : List (Int × Value)} (h : es.Perm (l.map (entS prog w))) : ElemsOf (strKind prog w) es := fun e he => by
 obtain ⟨p, _, rfl⟩ := List.mem_map.mp (h.subset he)
 exact ⟨⟨p.1, isStrOf_str _ _ _ _, rfl⟩, rfl⟩
theorem relayPlain (t : SetTable) (es : Array (Int × Value)) (n : Nat) (h : t.plain = false) : (relayAll t es n).2.1.plain = false := by
 unfold relayAll
 split
 · rename_i t' order q
   have e : t'.plain = t.plain := by
    unfold SetTable.relaid SetTable.laid at q
    cases q1 : SetTable.layClean (SetTable.sizeAbove n - 1) (es.map (·.1)) with
    | none => rw [q1] at q; cases q
    | some ow =>
     rw [q1] at q
     simp only [Option.bind_eq_bind, Option.bind_some, Option.pure_def, Option.some.injEq, Prod.mk.injEq] at q
     rw [← q.1]
   dsimp only
   split
   · rw [e]; exact h
   · rfl
 · rfl
theorem isStr_iff {k k' : Str} {t : Tok} : (strKind prog w).is k (.str k' t) = decide (k = k') := KeyKind.is_eq_decide (isStrOf_str k' t prog w) k
theorem addP {o : Obj} {es : Array (Int × Value)} {ep : Nat} {tb : SetTable} {l : List (Str × Tok)} {k : Str} {t : Tok} {Q : Bool → Shared → Prop} (hg : s.heap.get? a = some (⟨.type "set", none, .set es ep tb, #[]⟩ : Obj)) (hf : tb.fits es.size = true) (hp : es.toList.Perm (l.map (entS prog w))) (hn : ∀ p ∈ l, p.1 ≠ k) (hsz : l.length + 1 < scanBound)
 (h : ∀ h' o', Heap.SameBut a s.heap h' → h'.get? a = some o' → SetP prog w o' (l ++ [(k, t)]) → Q true { s with heap := h' }) : wpAny (model prog w) A (setAddHashed a (.str k t) ((strKind prog w).hash k)) Q E s := by
 have hel := elems_of hp
 have hlen : es.size = l.length := by rw [← Array.length_toList, hp.length_eq, List.length_map]
 unfold setAddHashed setAddHashedIn
 refine wpAny_holding (wpAny_bind (wpAny_setState_of hg rfl hf ?_))
 dsimp only
 rw [byScan_of (knd := strKind prog w) rfl (by lia) hel]
 simp only [↓reduceIte]
 unfold setAddByScan
 refine wpAny_bind ?_
 refine wpAny_bind (wpAny_rule ?_)
 refine wpAny_bind (wpAny_setScan_of (knd := strKind prog w) (isStrOf_str k t prog w) hg rfl hf hel ?_)
 have hr : List.findIdx? (fun e => (strKind prog w).is k e.2) es.toList = none := by
  refine List.findIdx?_eq_none_iff.mpr fun e he => ?_
  obtain ⟨p, hp', rfl⟩ := List.mem_map.mp (hp.subset he)
  rw [isStr_iff]
  exact decide_eq_false (Ne.symm (hn p hp'))
 rw [hr]
 dsimp only
 have hgw : ∀ (b : Bool) {s₁ : Shared} {Q' : Unit → Shared → Prop}, Q' () s₁ → wpAny (model prog w) A (match b with | true => rule "set.scan.the-table-gave-way" | false => pure ()) Q' E s₁ :=
  fun b s₁ Q' hq => by cases b <;> first | exact wpAny_pure hq | exact wpAny_rule hq
 have hperm := layNew_perm tb es ((strKind prog w).hash k) (.str k t)
 have hfits := layNew_fits tb es ((strKind prog w).hash k) (.str k t)
 generalize hL : layNew tb es ((strKind prog w).hash k) (.str k t) = Z at hperm hfits ⊢
 obtain ⟨es1, t1, wasDummy, gave⟩ := Z
 dsimp only at hperm hfits ⊢
 rw [Array.toList_push] at hperm
 have hp1 : es1.toList.Perm ((l ++ [(k, t)]).map (entS prog w)) := by
  refine hperm.trans ?_
  rw [List.map_append]
  exact hp.append_right _
 have hs1 : es1.size = l.length + 1 := by rw [← Array.length_toList, hp1.length_eq]; simp
 refine wpAny_bind (hgw _ ?_)
 have hend : ∀ (t2 : SetTable), t2.plain = false → t2.fits es1.size = true → wpAny (model prog w) A (do
  storeSet a es1 t2
  if (!wasDummy && t2.tooFull) = true then do
   (match (relayAll t2 es1 (SetTable.grown es1.size)).2.2 with | true => rule "set.scan.the-table-gave-way" | false => pure ())
   storeSet a (relayAll t2 es1 (SetTable.grown es1.size)).1 (relayAll t2 es1 (SetTable.grown es1.size)).2.1
   pure (some true)
   else pure (some true)) (fun r s' => wpAny (model prog w) A (match r with | some added => pure added | none => setAddHashedIn a (.str k t) ((strKind prog w).hash k) 99999) Q E s') E s := by
  intro t2 hpl hf2
  refine wpAny_bind (wpAny_storeSet_of hg rfl ?_ (fits_of_scanBound (by lia)))
  have e1 : (s.heap.update a (Obj.putSet es1 t2)).get? a = some (⟨.type "set", none, .set es1 (ep + 1) t2, #[]⟩ : Obj) := by
   rw [Heap.get?_update_self _ hg (by rw [putSet_of es1 t2 rfl]; rfl), putSet_of es1 t2 rfl]
  split
  · have hpr := relayAll_perm t2 es1 (SetTable.grown es1.size)
    have hfr := relayAll_fits t2 es1 (SetTable.grown es1.size)
    have hplr := relayPlain t2 es1 (SetTable.grown es1.size) hpl
    generalize hRl : relayAll t2 es1 (SetTable.grown es1.size) = Rl at hpr hfr hplr ⊢
    obtain ⟨es2, t3, gave2⟩ := Rl
    dsimp only at hpr hfr hplr ⊢
    have hsz2 : es2.size = es1.size := by rw [← Array.length_toList, hpr.length_eq, Array.length_toList]
    refine wpAny_bind (hgw _ ?_)
    refine wpAny_bind (wpAny_storeSet_of (s := { s with heap := s.heap.update a (Obj.putSet es1 t2) }) e1 rfl ?_ (fits_of_scanBound (by lia)))
    refine wpAny_pure (wpAny_pure (h _ _ ((Heap.SameBut.update ..).trans (Heap.SameBut.update ..)) (by
     rw [Heap.get?_update_self _ e1 (by rw [putSet_of es2 t3 rfl]; rfl), putSet_of es2 t3 rfl]) ⟨es2, _, t3, rfl, hfr, hpr.trans hp1, hplr⟩))
  · exact wpAny_pure (wpAny_pure (h _ _ (Heap.SameBut.update ..) e1 ⟨es1, _, t2, rfl, hf2, hp1, hpl⟩))
 split
 · refine wpAny_bind ?_
   rw [hashByValue_scannable 8 rfl]
   refine wpAny_pure ?_
   exact hend (if plainKind (.str k t) = true then t1 else { t1 with plain := false }) (by rw [if_neg (fun q => by cases q)]) (by rw [if_neg (fun q => by cases q)]; exact SetTable.fits_plain_off hfits)
 · rename_i q
   refine wpAny_bind (wpAny_pure ?_)
   exact hend t1 (by cases q2 : t1.plain <;> simp_all) hfits
end
noncomputable abbrev Kvs := List (Str × Value)
noncomputable abbrev DicO (prog : Program) (w : World) (o : Obj) (kvs : Kvs) : Prop := o.IsDictOf (strKind prog w) kvs
theorem ent_at {prog : Program} {w : World} {es : Array DictEntry} {kvs : Kvs} (hk : PySem.KeysOf (strKind prog w) es) (hp : PySem.Pairs (strKind prog w) es.toList kvs) {i : Nat} {kv : Str × Value} (h : kvs[i]? = some kv) :
 ∃ (e : DictEntry) (t : Tok), es[i]? = some e ∧ e.key = .str kv.1 t ∧ e.hash = (strKind prog w).hash kv.1 ∧ e.val = kv.2 := by
 have go : ∀ {l : List DictEntry} {kvs : Kvs}, PySem.Pairs (strKind prog w) l kvs → ∀ i : Nat, kvs[i]? = some kv → ∃ e : DictEntry, l[i]? = some e ∧ (strKind prog w).is kv.1 e.key = true ∧ e.val = kv.2 := by
  intro l kvs hp
  induction hp with
  | nil => intro i h; simp at h
  | @cons e kv' es kvs h1 h2 _ ih =>
   intro i h
   cases i with
   | zero =>
    simp only [List.getElem?_cons_zero, Option.some.injEq] at h
    subst h
    exact ⟨e, rfl, h1, h2⟩
   | succ i => exact ih i (by simpa using h)
 obtain ⟨e, h1, h2, h3⟩ := go hp i h
 rw [Array.getElem?_toList] at h1
 obtain ⟨t, ht⟩ := Value.isStrOf_shape h2
 obtain ⟨k, hk1, hk2⟩ := hk e (Array.mem_of_getElem? h1)
 have : k = kv.1 := (strKind prog w).inj _ _ _ hk1 h2
 subst this
 exact ⟨e, t, h1, ht, hk2, h3⟩
section
variable {prog : Program} {w : World} {A : Around} {E : Value → Shared → Prop} {s s' : Shared} {B : Heap} {os : OsState} {G : Array GenState} {L a D : Addr} {m : Str → Option Value} {news : List Cell} {o od : Obj}
structure Grown (prog : Program) (w : World) (kvs : Kvs) (l : List (Str × Tok)) (i : Nat) (l' : List (Str × Tok)) : Prop where
 names : txs l' = txs l ++ (kvs.take i).map (·.1)
theorem Grown.zero {kvs : Kvs} {l : List (Str × Tok)} : Grown prog w kvs l 0 l := ⟨by simp⟩
theorem Grown.succ {kvs : Kvs} {l l' : List (Str × Tok)} {i : Nat} (h : Grown prog w kvs l i l') {kv : Str × Value} (e : kvs[i]? = some kv) (t : Tok) : Grown prog w kvs l (i + 1) (l' ++ [(kv.1, t)]) := by
 refine ⟨?_⟩
 have hi : i < kvs.length := by
  rcases Nat.lt_or_ge i kvs.length with q | q
  · exact q
  · rw [List.getElem?_eq_none q] at e; cases e
 have : kvs.take (i + 1) = kvs.take i ++ [kv] := by
  rw [List.take_add_one, e]; rfl
 rw [this, txs, List.map_append, show l'.map (·.1) = txs l' from rfl, h.names]
 simp
theorem Grown.apart {kvs : Kvs} {l l' : List (Str × Tok)} {i : Nat} (h : Grown prog w kvs l i l') (nd : (txs l ++ kvs.map (·.1)).Nodup) {kv : Str × Value} (e : kvs[i]? = some kv) : ∀ p ∈ l', p.1 ≠ kv.1 := by
 intro p hp q
 have hm : p.1 ∈ txs l' := List.mem_map_of_mem hp
 rw [h.names] at hm
 have hi : i < kvs.length := by
  rcases Nat.lt_or_ge i kvs.length with q | q
  · exact q
  · rw [List.getElem?_eq_none q] at e; cases e
 have e2 : kvs = kvs.take i ++ kv :: kvs.drop (i + 1) := by
  rw [List.getElem?_eq_getElem hi] at e
  have := List.take_append_drop i kvs
  rw [List.drop_eq_getElem_cons hi, Option.some.inj e] at this
  exact this.symm
 rw [e2, List.map_append, List.map_cons, ← List.append_assoc] at nd
 have := (List.nodup_append.mp nd).2.2 p.1 hm
 exact this kv.1 (.head _) q
theorem Grown.len {kvs : Kvs} {l l' : List (Str × Tok)} {i : Nat} (h : Grown prog w kvs l i l') (hi : i ≤ kvs.length) : l'.length = l.length + i := by
 have := congrArg List.length h.names
 simp at this
 lia
theorem starLoopA {kvs : Kvs} {l : List (Str × Tok)} {es : Array DictEntry} {ep : Nat} {Q : PUnit → Shared → Prop} {body : Nat → PUnit → Sem (ForInStep PUnit)} (hod : od.data = .dict es ep) (hk : PySem.KeysOf (strKind prog w) es) (hp : PySem.Pairs (strKind prog w) es.toList kvs) (nd : (txs l ++ kvs.map (·.1)).Nodup) (hsz : l.length + kvs.length + 1 < scanBound) (hD : (D, od) ∈ news)
 (hb : ∀ (i : Nat) (e : DictEntry) (s : Shared) (R : ForInStep PUnit → Shared → Prop), es[i]? = some e → s.heap.get? D = some od → wpAny (model prog w) A (setAddHashed a e.key e.hash) (fun _ s' => s'.heap.get? D = some od ∧ R (.yield PUnit.unit) s') E s → wpAny (model prog w) A (body i PUnit.unit) R E s)
 (h : ∀ o' l' s', SetP prog w o' l' → txs l' = txs l ++ kvs.map (·.1) → St B os G L m ((a, o') :: news) s' → Q PUnit.unit s') :
 ∀ (k i : Nat) (o : Obj) (l' : List (Str × Tok)) (s : Shared), i + k = kvs.length → (SetP prog w o l') → Grown prog w kvs l i l' → St B os G L m ((a, o) :: news) s → wpAny (model prog w) A (forIn (List.range' i k) PUnit.unit body) Q E s
 | 0, i, o, l', s, hi, hS, hG, S => by
  rw [show List.range' i 0 = [] from rfl, List.forIn_nil]
  refine wpAny_pure (h o l' s hS ?_ S)
  rw [hG.names, List.take_of_length_le (by lia)]
 | k + 1, i, o, l', s, hi, hS, hG, S => by
  rw [List.range'_succ, List.forIn_cons]
  have hlt : i < kvs.length := by lia
  obtain ⟨e, t, h1, h2, h3, h4⟩ := ent_at hk hp (List.getElem?_eq_getElem hlt)
  have hDg := S.get (.tail _ hD)
  refine wpAny_bind (hb i e s _ h1 hDg ?_)
  rw [h2, h3]
  obtain ⟨es', ep', tb, rfl, f1, f2, f3⟩ := hS.ex
  have hl := hG.len (by lia)
  refine addP (o := od) (S.get (.head _)) f1 f2 (hG.apart nd (List.getElem?_eq_getElem hlt)) (by lia) (fun h' o' hs' hg' hS' => ?_)
  have S' : St B os G L m ((a, o') :: news) { s with heap := h' } := S.same (t := s.toks) Up.head hs' hg'
  refine ⟨S'.get (.tail _ hD), ?_⟩
  exact starLoopA hod hk hp nd hsz hD hb h k (i + 1) o' _ _ (by lia) hS' (hG.succ (List.getElem?_eq_getElem hlt) t) S'
end
theorem range_one {α : Type} (f : Nat → Option α) (i : Nat) (x : α) (hi : f i = some x) (hn : ∀ j, j ≠ i → f j = none) : ∀ n, (List.range n).filterMap f = if i < n then [x] else []
 | 0 => by simp
 | n + 1 => by
  rw [List.range_succ, List.filterMap_append, range_one f i x hi hn n]
  by_cases h : i < n
  · rw [if_pos h, if_pos (by lia)]
    simp [hn n (by lia)]
  · rw [if_neg h]
    by_cases h2 : i = n
    · subst h2
      rw [if_pos (by lia)]
      simp [hi]
    · rw [if_neg (by lia)]
      simp [hn n (fun e => h2 e.symm)]
theorem own_at (mask i j : Nat) (hi : i < mask + 1) : ((Array.replicate (mask + 1) (none : Option Nat)).setIfInBounds i (some 0)).getD j none = if j = i then some 0 else none := by
 rw [Array.getD_eq_getD_getElem?, Array.getElem?_setIfInBounds]
 by_cases h : i = j
 · subst h
   simp [hi]
 · rw [if_neg h, if_neg (Ne.symm h)]
   by_cases h2 : j < mask + 1
   · simp [h2]
   · simp [h2]
theorem layClean1 (mask : Nat) (h : Int) : SetTable.layClean mask #[h] = some ((Array.replicate (mask + 1) none).setIfInBounds (SetTable.bits h % (mask + 1)) (some 0)) := by
 have hi : SetTable.bits h % (mask + 1) < mask + 1 := Nat.mod_lt _ (Nat.succ_pos _)
 have hf : SetTable.layClean.free mask (Array.replicate (mask + 1) none) (SetTable.turns mask) (SetTable.bits h % (mask + 1)) (SetTable.bits h) = some (SetTable.bits h % (mask + 1)) := by
  rw [show SetTable.turns mask = (mask + 14) + 1 from rfl]
  unfold SetTable.layClean.free
  have hr : SetTable.runEnd mask (SetTable.bits h % (mask + 1)) + 1 - SetTable.bits h % (mask + 1) = (SetTable.runEnd mask (SetTable.bits h % (mask + 1)) - SetTable.bits h % (mask + 1)) + 1 := by
   unfold SetTable.runEnd
   split <;> lia
  have : (List.range (SetTable.runEnd mask (SetTable.bits h % (mask + 1)) + 1 - SetTable.bits h % (mask + 1))).find? (fun k => ((Array.replicate (mask + 1) (none : Option Nat)).getD (SetTable.bits h % (mask + 1) + k) (some 0)).isNone) = some 0 := by
   rw [hr, List.range_succ_eq_map, List.find?_cons]
   have : ((Array.replicate (mask + 1) (none : Option Nat)).getD (SetTable.bits h % (mask + 1) + 0) (some 0)).isNone = true := by
    simp [Array.getD, hi]
   rw [this]
  rw [this]
  rfl
 unfold SetTable.layClean
 simp [hf]
theorem laid1 (mask f mv : Nat) (led pl : Bool) (h : Int) : SetTable.laid mask f mv led pl #[h] = some ({ mask, place := #[SetTable.bits h % (mask + 1)], dummies := #[], finger := f, led, moves := mv, plain := pl }, #[0]) := by
 have hi : SetTable.bits h % (mask + 1) < mask + 1 := Nat.mod_lt _ (Nat.succ_pos _)
 unfold SetTable.laid
 rw [layClean1]
 have e : (List.range (mask + 1)).filterMap (fun j => (((Array.replicate (mask + 1) (none : Option Nat)).setIfInBounds (SetTable.bits h % (mask + 1)) (some 0)).getD j none).map (j, ·)) = [(SetTable.bits h % (mask + 1), 0)] := by
  rw [range_one _ (SetTable.bits h % (mask + 1)) (SetTable.bits h % (mask + 1), 0) (by rw [own_at _ _ _ hi, if_pos rfl]; rfl) (fun j hj => by rw [own_at _ _ _ hi, if_neg hj]; rfl), if_pos hi]
 show some (_, _) = _
 rw [e]
 rfl
theorem above16 {n : Nat} (h : n ≤ 6) : SetTable.sizeAbove ((1 + n) * 2) ≤ sizeLine ∧ 7 ≤ SetTable.sizeAbove ((1 + n) * 2) - 1 := by
 rw [PySem.sizeLine_eq]
 exact (by decide : ∀ n ≤ 6, SetTable.sizeAbove ((1 + n) * 2) ≤ 16777216 ∧ 7 ≤ SetTable.sizeAbove ((1 + n) * 2) - 1) n h
section
variable {prog : Program} {w : World} {A : Around} {E : Value → Shared → Prop} {s s' : Shared} {B : Heap} {os : OsState} {G : Array GenState} {L a : Addr} {m : Str → Option Value} {news : List Cell} {o : Obj}
theorem roomS {k : Str} {t : Tok} {n : Nat} {Q : Unit → Shared → Prop} (S : St B os G L m ((a, o) :: news) s) (ho : SetP prog w o [(k, t)]) (hn : n ≤ 6) (h : ∀ o' s', SetP prog w o' [(k, t)] → St B os G L m ((a, o') :: news) s' → Q () s') :
 wpAny (model prog w) A (setRoomFor a n) Q E s := by
 obtain ⟨es, ep, tb, rfl, f1, f2, f3⟩ := ho.ex
 have hes : es.toList = [entS prog w (k, t)] := List.perm_singleton.mp (by simpa using f2)
 have hsz : es.size = 1 := by rw [← Array.length_toList, hes]; rfl
 have hpl : tb.place.size = 1 := by
  rw [hsz] at f1
  simp only [SetTable.fits, Bool.and_eq_true, beq_iff_eq] at f1
  exact f1.1
 unfold setRoomFor
 refine wpAny_bind (wpAny_setState_of (S.get (.head _)) rfl f1 ?_)
 dsimp only
 unfold SetTable.roomFor
 split
 · rename_i wanted q
   split at q
   · cases q
     rw [hpl]
     unfold setRelay
     refine wpAny_bind (wpAny_setState_of (S.get (.head _)) rfl f1 ?_)
     dsimp only
     rw [if_neg (Nat.not_lt.mpr (above16 hn).1)]
     have hh : es.map (·.1) = #[(strKind prog w).hash k] := by
      apply Array.toList_inj.mp
      rw [Array.toList_map, hes]
      rfl
     rw [hh]
     unfold SetTable.relaid
     rw [laid1]
     have he : (#[0] : Array Nat).filterMap (es[·]?) = es := by
      apply Array.toList_inj.mp
      rw [Array.toList_filterMap, hes]
      have : es[0]? = some (entS prog w (k, t)) := by rw [← Array.getElem?_toList, hes]; rfl
      simp [this]
     refine wpAny_bind ?_
     show wpAny _ _ (if ((#[0] : Array Nat).filterMap (es[·]?)).size != es.size then _ else _) _ _ _
     rw [he, if_neg (by simp)]
     refine wpAny_pure ?_
     refine wpAny_storeSet_of (S.get (.head _)) rfl ?_ (by rw [hsz, PySem.sizeLine_eq]; decide)
     refine h _ _ ?_ (S.same (t := s.toks) Up.head (Heap.SameBut.update ..) (by rw [Heap.get?_update_self _ (S.get (.head _)) (by rw [putSet_of _ _ rfl]; rfl), putSet_of _ _ rfl]))
     refine ⟨es, _, _, rfl, ?_, f2, f3⟩
     rw [hsz]
     simp only [SetTable.fits, SetTable.fill]
     have := (above16 hn).2
     simp
     lia
   · cases q
 · exact wpAny_pure (h _ _ ⟨es, ep, tb, rfl, f1, f2, f3⟩ S)
end
noncomputable abbrev kitO (D : Addr) (i n ep : Nat) : Obj := { cls := .type "dict_keyiterator", data := .fields #[.ref D, .int i 0, .int n 0, .int ep 0] }
section
variable {prog : Program} {w : World} {A : Around} {E : Value → Shared → Prop} {s s' : Shared} {B : Heap} {os : OsState} {G : Array GenState} {L a D it : Addr} {m : Str → Option Value} {news : List Cell} {o od : Obj}
theorem DicO.at {h : Heap} {kvs : Kvs} {es : Array DictEntry} {ep : Nat} (e : h.get? D = some od) (hx : od.ExactDict) (hod : od.data = .dict es ep) (hk : PySem.KeysOf (strKind prog w) es) (hp : PySem.Pairs (strKind prog w) es.toList kvs) (nd : (kvs.map (·.1)).Nodup) : h.DictAt (strKind prog w) D kvs ep :=
 ⟨od, es, e, hx, hod, hk, hp, nd⟩
theorem St.leave {o : Obj} {h' : Heap} (S : St B os G L m ((it, o) :: news) s) (hx : Heap.ExtBut it s.heap h') {t : Nat} : St B os G L m news { s with heap := h', toks := t } := by
 have z := S.N _ (.head _)
 have nd := S.nd
 rw [List.map_cons, List.nodup_cons] at nd
 refine ⟨⟨S.F.ns.extBut hx z.2.1.symm, fun b o e => hx b o (fun q => by rw [q, z.2.2] at e; cases e) (S.F.keep b o e), S.F.above⟩, fun p hp => ?_, nd.2, S.gens, S.bare, S.os⟩
 have y := S.N p (.tail _ hp)
 exact ⟨hx _ _ (fun q => nd.1 (by show it ∈ _; rw [← q]; exact List.mem_map_of_mem (f := Prod.fst) hp)) y.1, y.2⟩
theorem starLoopB {kvs : Kvs} {l : List (Str × Tok)} {es : Array DictEntry} {ep : Nat} {R : Result → Shared → Prop} (hh : A.handled = none) (hxd : od.ExactDict) (hod : od.data = .dict es ep) (hk : PySem.KeysOf (strKind prog w) es) (hp : PySem.Pairs (strKind prog w) es.toList kvs) (nd : (txs l ++ kvs.map (·.1)).Nodup) (hsz : l.length + kvs.length + 1 < scanBound) (hD : (D, od) ∈ news)
 (h : ∀ o' l' s', SetP prog w o' l' → txs l' = txs l ++ kvs.map (·.1) → St B os G L m ((a, o') :: news) s' → R (.ok (.ret .none)) s') :
 ∀ (k i : Nat) (o oit : Obj) (l' : List (Str × Tok)) (s : Shared), i + k = kvs.length → SetP prog w o l' → Grown prog w kvs l i l' → oit.cls = .type "dict_keyiterator" → oit.data = .fields #[.ref D, .int i 0, .int kvs.length 0, .int ep 0] → St B os G L m ((it, oit) :: (a, o) :: news) s →
  codeAny (model prog w) A (.builtin "set.update.loop" ⟨[.ref a, .ref it], []⟩) R s
 | 0, i, o, oit, l', s, hi, hS, hG, c1, c2, S => by
  refine codeAny_builtin PyProof.Rows.F.entry_set_update_loop ?_
  rw [Around.under_plainId PyProof.Rows.F.plain_set_update_loop _]
  refine wpAny_bind (wpAny_pyNext_dict_end (knd := strKind prog w) (kvs := kvs) (i := i) hh ⟨_, S.get (.head _), c1, c2⟩ (DicO.at (S.get (.tail _ (.tail _ hD))) hxd hod hk hp (List.nodup_append.mp nd).2.1) (by simp; lia) (fun h' hx => ?_))
  refine wpAny_pure (h o l' _ hS ?_ (S.leave (t := s.toks) hx))
  rw [hG.names, List.take_of_length_le (by lia)]
 | k + 1, i, o, oit, l', s, hi, hS, hG, c1, c2, S => by
  have hlt : i < kvs.length := by lia
  refine codeAny_builtin PyProof.Rows.F.entry_set_update_loop ?_
  rw [Around.under_plainId PyProof.Rows.F.plain_set_update_loop _]
  refine wpAny_bind (wpAny_pyNext_dict_item (knd := strKind prog w) (kvs := kvs) (i := i) ⟨_, S.get (.head _), c1, c2⟩ (DicO.at (S.get (.tail _ (.tail _ hD))) hxd hod hk hp (List.nodup_append.mp nd).2.1) (List.getElem?_eq_getElem hlt) (fun key h' hkey hit hs' => ?_))
  obtain ⟨t, rfl⟩ := Value.isStrOf_shape hkey
  obtain ⟨oit', g1, g2, g3⟩ := hit
  have S1 : St B os G L m ((it, oit') :: (a, o) :: news) { s with heap := h' } := S.same (t := s.toks) Up.head hs' g1
  dsimp only
  refine wpAny_bind (wpAny_holding ?_)
  unfold setAdd
  refine wpAny_holding (wpAny_bind ((strKind prog w).pyHash (isStrOf_str _ t prog w) ?_))
  have S1 : St B os G L m ((it, oit') :: (a, o) :: news) { s with heap := h', toks := s.toks + 1 } := S1.tk
  obtain ⟨es', ep', tb, rfl, f1, f2, f3⟩ := hS.ex
  have hl := hG.len (by lia)
  refine addP (s := { s with heap := h', toks := s.toks + 1 }) (o := od) (S1.get (.tail _ (.head _))) f1 f2 (hG.apart nd (List.getElem?_eq_getElem hlt)) (by lia) (fun h'' o' hs'' hg' hS' => ?_)
  have S2 : St B os G L m ((it, oit') :: (a, o') :: news) { s with heap := h'', toks := s.toks + 1 } := S1.same (t := s.toks + 1) (Up.tail Up.head) hs'' hg'
  refine wpAny_pure ⟨plainId_quiet PyProof.Rows.F.plain_set_update_loop _, ?_⟩
  exact starLoopB hh hxd hod hk hp nd hsz hD h k (i + 1) o' oit' _ _ (by lia) hS' (hG.succ (List.getElem?_eq_getElem hlt) t) g2 g3 S2
theorem starS {kvs : Kvs} {k : Str} {t : Tok} {Q : Unit → Shared → Prop} (hh : A.handled = none) (S : St B os G L m ((a, o) :: news) s) (hD : (D, od) ∈ news) (hd : DicO prog w od kvs) (ho : SetP prog w o [(k, t)]) (hne : (D == sysModules) = false) (hn : k ∉ kvs.map (·.1)) (hsz : kvs.length ≤ 6)
 (h : ∀ o' l' s', SetP prog w o' l' → txs l' = k :: kvs.map (·.1) → St B os G L m ((a, o') :: news) s' → Q () s') : wpAny (model prog w) A (setDisplayStar a (.ref D)) Q E s := by
 obtain ⟨es, ep, hxd, hod, hk, hp, nd⟩ := hd
 have hDs := S.get (.tail _ hD)
 have hT : s.TypeIs (.ref D) "dict" := ⟨_, hDs, hxd.1⟩
 have f1 : isSubtype (.type "dict") (.type "set") = pure false := by rw [isSubtype_type]; kernel_rfl
 have f2 : isSubtype (.type "dict") (.type "frozenset") = pure false := by rw [isSubtype_type]; kernel_rfl
 have nd2 : (txs [(k, t)] ++ kvs.map (·.1)).Nodup := List.nodup_cons.mpr ⟨hn, nd⟩
 have hsb : [(k, t)].length + kvs.length + 1 < scanBound := by
  show 1 + kvs.length + 1 < 4096
  lia
 unfold setDisplayStar
 repeat (any_goals (first | assumption | wp_step))
 refine wpAny_askSetting ?_
 show wpAny _ _ (match if w.params.followText _ = true then Value.none else Value.ref D with | .ref a_2 => _ | _ => _) _ _ _
 cases hf : w.params.followText "set-display-star-reads-storage" with
 | false =>
  show wpAny _ _ (typeOf (.ref D) >>= _) _ _ _
  refine wpAny_bind (wpAny_typeOf hT ?_)
  show wpAny _ _ (rule _ >>= _) _ _ _
  refine wpAny_bind (wpAny_rule ?_)
  rw [hne]
  show wpAny _ _ (dictEpoch D >>= _) _ _ _
  refine wpAny_bind (wpAny_dictEpoch hDs hod ?_)
  refine wpAny_bind (wpAny_dictEntries hDs hod ?_)
  have hes : es.size = kvs.length := by rw [← hp.length]; simp
  rw [hes]
  refine wpAny_bind (roomS S ho hsz (fun o' s' ho' S' => ?_))
  refine wpAny_bind ?_
  rw [Std.Legacy.Range.forIn_eq_forIn_range', show List.range' [:kvs.length].start [:kvs.length].size [:kvs.length].step = List.range' 0 kvs.length by simp [Std.Legacy.Range.size]]
  refine starLoopA (od := od) hod hk hp nd2 hsb hD ?_ (fun o'' l' s'' hS'' e'' S'' => ?_) kvs.length 0 o' [(k, t)] s' (by lia) ho' Grown.zero S'
  · intro i e s1 R he hD1 h1
    refine wpAny_bind (wpAny_dictEntries hD1 hod ?_)
    rw [he]
    refine wpAny_bind (wpAny_holding (wpAny_bind (wpAny_mono h1 ?_ fun _ _ z => z)))
    rintro b s2 ⟨hD2, h2⟩
    refine wpAny_pure (wpAny_bind (wpAny_dictEpoch hD2 hod ?_))
    rw [if_neg (by simp)]
    exact wpAny_pure h2
  · first | exact wpAny_pure (h _ _ _ hS'' e'' S'') | exact h _ _ _ hS'' e'' S''
 | true =>
  show wpAny _ _ (pyIter (.ref D) >>= _) _ _ _
  refine wpAny_bind (wpAny_pyIter_dict hne (DicO.at hDs hxd hod hk hp nd) ?_)
  refine wpAny_bind (wpAny_runValue ?_)
  have S1 := S.push (t := s.toks) (kitO D 0 kvs.length ep)
  refine starLoopB (od := od) hh hxd hod hk hp nd2 hsb hD (fun o'' l' s'' hS'' e'' S'' => ?_) kvs.length 0 o _ [(k, t)] _ (by lia) ho Grown.zero rfl rfl S1
  first | exact wpAny_pure (h _ _ _ hS'' e'' S'') | exact h _ _ _ hS'' e'' S''
end
noncomputable def SetQ (prog : Program) (w : World) (o : Obj) (l : List (Str × Tok)) : Prop := (∃ k t, l = [(k, t)] ∧ One prog w o k t) ∨ (2 ≤ l.length ∧ SetP prog w o l)
section
variable {prog : Program} {w : World} {A : Around} {E : Value → Shared → Prop} {s s' : Shared} {B : Heap} {os : OsState} {G : Array GenState} {L a D : Addr} {m : Str → Option Value} {news : List Cell} {o od : Obj} {K : Frag} {env : Env}
theorem dic_nil (h : DicO prog w od []) : ∃ ep, od = dictO #[] ep := by
 obtain ⟨es, ep, hx, hd, hk, hp, nd⟩ := h
 have : es = #[] := by
  have := hp.length
  apply Array.toList_inj.mp
  cases q : es.toList with
  | nil => rfl
  | cons _ _ => rw [q] at this; simp at this
 subst this
 obtain ⟨c, d, dt, sl⟩ := od
 obtain ⟨rfl, rfl, rfl⟩ := hx
 exact ⟨ep, by rw [show dt = Data.dict #[] ep from hd]⟩
theorem setDispN {e1 e2 : PySem.Expr} {p1 pos : Pos} {k0 : Nat} {D : Addr} {k : Str} {t : Tok} {kvs : Kvs} {Q : Value → Shared → Prop} (hh : A.handled = none) (S : St B os G L m news s) (X : K.In B) (hc : kdsCode K env.code = true) (hroad : (displayRoad k0 [e1, .Starred e2 p1] == .constants) = false) (hroad2 : (displayRoad k0 [e1, .Starred e2 p1] == .unsure) = false)
 (he : starEach [e1, .Starred e2 p1] env = [(false, eval e1 env), (true, eval e2 env)]) (hD : (D, od) ∈ news) (hd : DicO prog w od kvs) (hne : (D == sysModules) = false) (hn : k ∉ kvs.map (·.1)) (hsz : kvs.length ≤ 6) (h0 : kvs ≠ [])
 (h1 : ∀ a led s', St B os G L m ((a, set0 led) :: news) s' → wpAny (model prog w) A (eval e1 env) (fun v s₁ => v = .str k t ∧ St B os G L m ((a, set0 led) :: news) s₁ ∧ ∀ o s₂, St B os G L m ((a, o) :: news) s₂ → wpAny (model prog w) A (eval e2 env) (fun v s₃ => v = .ref D ∧ St B os G L m ((a, o) :: news) s₃ ∧ ∀ o' l' s₄, SetQ prog w o' l' → txs l' = k :: kvs.map (·.1) → St B os G L m ((a, o') :: news) s₄ → Q (.ref a) s₄) E s₂) E s') :
 wpAny (model prog w) A (eval (.Set [e1, .Starred e2 p1] k0 pos) env) Q E s := by
 rw [arm_eval_Set]
 refine wpAny_bind (wpAny_standAt ?_)
 refine wpAny_bind (kds_main (S.X X) hc fun b => ?_)
 rw [he]
 unfold setDisplay
 dsimp only
 rw [if_neg (by rw [hroad]; exact Bool.false_ne_true)]
 refine wpAny_bind (newSetLed ?_)
 generalize hled : (!w.params.followText "set-order") = led
 have S0 := S.push (t := s.toks) (set0 led)
 dsimp only
 refine wpAny_bind (wpAny_holding ?_)
 show wpAny _ _ (evalAll [do let v ← eval e1 env; standAt pos; pure v] >>= _) _ _ _
 refine wpAny_bind ?_
 show wpAny _ _ ((eval e1 env >>= fun v => standAt pos >>= fun _ => pure v) >>= fun v => holding [v] (pure []) >>= fun r => pure (v :: r)) _ _ _
 refine wpAny_bind (wpAny_bind (wpAny_mono (h1 _ led _ S0) ?_ fun _ _ z => z))
 rintro v s₁ ⟨rfl, S1, h2⟩
 refine wpAny_bind (wpAny_standAt (wpAny_pure ?_))
 refine wpAny_bind (wpAny_holding (wpAny_pure (wpAny_pure ?_)))
 refine wpAny_bind (wpAny_holding ?_)
 refine wpAny_bind ?_
 rw [List.forIn_cons]
 refine wpAny_bind (wpAny_bind ?_)
 unfold setAdd
 refine wpAny_holding (wpAny_bind ((strKind prog w).pyHash (isStrOf_str k t prog w) ?_))
 refine addP (s := { s₁ with toks := s₁.toks + 1 }) (o := od) (l := []) (S1.get (.head _)) rfl (by simp) (fun _ q => nomatch q) (by decide) (fun h' o' hs' hg' hS' => ?_)
 have S2 : St B os G L m ((s.heap.objs.size, o') :: news) { s₁ with heap := h', toks := s₁.toks + 1 } := S1.same (t := s₁.toks + 1) Up.head hs' hg'
 have h3 := h2 _ _ S2
 refine wpAny_pure ?_
 show wpAny _ _ (forIn [] PUnit.unit _) _ _ _
 rw [List.forIn_nil]
 refine wpAny_pure ?_
 rw [hroad2, if_neg Bool.false_ne_true]
 refine wpAny_pure ?_
 show wpAny _ _ (forIn [(true, do let v ← eval e2 env; standAt pos; pure v)] PUnit.unit _ >>= _) _ _ _
 refine wpAny_bind ?_
 rw [List.forIn_cons]
 refine wpAny_bind (wpAny_bind (wpAny_bind (wpAny_mono h3 ?_ fun _ _ z => z)))
 rintro v s₃ ⟨rfl, S3, h4⟩
 refine wpAny_bind (wpAny_standAt (wpAny_pure ?_))
 rw [if_pos rfl]
 refine wpAny_bind (wpAny_holding (starS hh S3 hD hd hS' hne hn hsz (fun o'' l' s4 hS'' e'' S => ?_)))
 refine wpAny_pure ?_
 show wpAny _ _ (forIn [] PUnit.unit _) _ _ _
 rw [List.forIn_nil]
 refine wpAny_pure (wpAny_pure (wpAny_pure (h4 _ _ _ (.inr ⟨?_, hS''⟩) e'' S)))
 have := congrArg List.length e''
 simp at this
 have : 0 < kvs.length := List.length_pos_iff.mpr h0
 lia
theorem setDispQ {e1 e2 : PySem.Expr} {p1 pos : Pos} {k0 : Nat} {D : Addr} {k : Str} {t : Tok} {kvs : Kvs} {Q : Value → Shared → Prop} (hh : A.handled = none) (S : St B os G L m news s) (X : K.In B) (hc : kdsCode K env.code = true) (hroad : (displayRoad k0 [e1, .Starred e2 p1] == .constants) = false) (hroad2 : (displayRoad k0 [e1, .Starred e2 p1] == .unsure) = false)
 (he : starEach [e1, .Starred e2 p1] env = [(false, eval e1 env), (true, eval e2 env)]) (hD : (D, od) ∈ news) (hd : DicO prog w od kvs) (hne : (D == sysModules) = false) (hn : k ∉ kvs.map (·.1)) (hsz : kvs.length ≤ 6)
 (h1 : ∀ a o s', St B os G L m ((a, o) :: news) s' → wpAny (model prog w) A (eval e1 env) (fun v s₁ => v = .str k t ∧ St B os G L m ((a, o) :: news) s₁) E s')
 (h2 : ∀ a o s', St B os G L m ((a, o) :: news) s' → wpAny (model prog w) A (eval e2 env) (fun v s₁ => v = .ref D ∧ St B os G L m ((a, o) :: news) s₁) E s')
 (h : ∀ a o' l' s', SetQ prog w o' l' → txs l' = k :: kvs.map (·.1) → St B os G L m ((a, o') :: news) s' → Q (.ref a) s') :
 wpAny (model prog w) A (eval (.Set [e1, .Starred e2 p1] k0 pos) env) Q E s := by
 cases kvs with
 | nil =>
  obtain ⟨ep, rfl⟩ := dic_nil hd
  refine setDispS (k := k) (t := t) hh S X hc hroad hroad2 he hD hne (fun a led s' S' => wpAny_mono (h1 a _ s' S') ?_ fun _ _ z => z)
  rintro v s₁ ⟨e, S1⟩
  refine ⟨e, S1, fun o s₂ ho S2 => wpAny_mono (h2 a o s₂ S2) ?_ fun _ _ z => z⟩
  rintro v s₃ ⟨e', S3⟩
  exact ⟨e', S3, fun s₄ S4 => h a o [(k, t)] s₄ (.inl ⟨k, t, rfl, ho⟩) rfl S4⟩
 | cons kv kvs =>
  refine setDispN (k := k) (t := t) hh S X hc hroad hroad2 he hD hd hne hn hsz (by simp) (fun a led s' S' => wpAny_mono (h1 a _ s' S') ?_ fun _ _ z => z)
  rintro v s₁ ⟨e, S1⟩
  refine ⟨e, S1, fun o s₂ S2 => wpAny_mono (h2 a o s₂ S2) ?_ fun _ _ z => z⟩
  rintro v s₃ ⟨e', S3⟩
  exact ⟨e', S3, fun o' l' s₄ hq hl S4 => h a o' l' s₄ hq hl S4⟩
end
end Mine
end
section
open PySem PySem.W PySem.Calls PyProof.Rows PySem.Spec
open PySem.Str (ofString)
namespace Mine
theorem erase_perm {α : Type} {l : List α} {i : Nat} (hi : i < l.length) : (l[i] :: l.eraseIdx i).Perm l := by
 rw [List.eraseIdx_eq_take_drop_succ]
 have := List.take_append_drop i l
 rw [List.drop_eq_getElem_cons hi] at this
 exact (List.perm_middle.symm).trans (by rw [this])
section
variable {M : Model} {A : Around} {E : Value → Shared → Prop} {s : Shared}
theorem wpAny_draw {src : Source} {n : Nat} {Q : Nat → Shared → Prop} (hn : n ≠ 0) (h : ∀ i d, i < n → Q i { s with drawn := d }) : wpAny M A (choose src n) Q E s :=
 fun Γ p hΓ => ⟨hn, h _ _ (Nat.mod_lt _ (Nat.pos_of_ne_zero hn))⟩
theorem drawS {α : Type} : ∀ (n : Nat) (xs : List α) (s : Shared) {Q : List α → Shared → Prop}, xs.length = n → (∀ ys d, ys.Perm xs → Q ys { s with drawn := d }) → wpAny M A (drawOrder n xs) Q E s
 | 0, xs, s, Q, hl, h => by
  have : xs = [] := List.length_eq_zero_iff.mp hl
  subst this
  exact wpAny_pure (h [] s.drawn (.refl _))
 | n + 1, [], s, Q, hl, h => by simp at hl
 | n + 1, x :: xs, s, Q, hl, h => by
  unfold drawOrder
  refine wpAny_bind (wpAny_draw (by simp) (fun i d hi => ?_))
  have e : (x :: xs)[i]? = some (x :: xs)[i] := List.getElem?_eq_getElem hi
  rw [e]
  refine wpAny_bind (drawS n ((x :: xs).eraseIdx i) { s with drawn := d } (by rw [List.length_eraseIdx_of_lt hi]; simp at hl ⊢; lia) (fun ys d' hp => wpAny_pure (h _ d' ?_)))
  exact (hp.cons _).trans (erase_perm hi)
end
theorem pick_go {α : Type} (next : Nat → Nat) : ∀ (n k : Nat) (left : List α) (out : Array α), left.length = n → (pickOrder.go next n k left out).toList.Perm (out.toList ++ left)
 | 0, k, left, out, hl => by
  have : left = [] := List.length_eq_zero_iff.mp hl
  subst this
  unfold pickOrder.go
  simp
 | n + 1, k, left, out, hl => by
  unfold pickOrder.go
  have hi : next k % left.length < left.length := Nat.mod_lt _ (by lia)
  rw [List.getElem?_eq_getElem hi]
  dsimp only
  refine (pick_go next n (k + 1) _ _ (by rw [List.length_eraseIdx_of_lt hi]; lia)).trans ?_
  rw [Array.toList_push, List.append_assoc]
  exact (erase_perm hi).append_left _
theorem pick_perm {α : Type} (next : Nat → Nat) (xs : Array α) : (pickOrder next xs).toList.Perm xs.toList := by
 have := pick_go next xs.size 0 xs.toList #[] (by simp)
 simpa [pickOrder] using this
noncomputable abbrev sitN (first : Value) (a : Addr) (i n ep : Nat) : Obj := { cls := .type "set_iterator", data := .fields #[first, rawInt i, .ref a, rawInt n, rawInt ep] }
section
variable {prog : Program} {w : World} {A : Around} {E : Value → Shared → Prop} {h : Heap} {g : Array GenState} {d : Drawn} {t : Nat} {os : OsState} {a : Addr} {es : Array (Int × Value)} {ep : Nat} {tb : SetTable}
theorem setIterN {Q : Value → Shared → Prop} (hx : h.get? a = some (⟨.type "set", none, .set es ep tb, #[]⟩ : Obj)) (hf : tb.fits es.size = true) (hpl : tb.plain = false) (h2 : 2 ≤ es.size) (hz : es.size < 1000)
 (q1 : w.params.followText "set-order" = true → Q (.ref h.objs.size) ⟨h.push (sitN (rawInt 0) a 0 es.size ep), g, d, t, os⟩)
 (q2 : ∀ (ys : List Nat) (d' : Drawn), w.params.followText "set-order" = false → ys.Perm (List.range es.size) → Q (.ref (h.objs.size + 1)) ⟨(h.push (tupO (ys.map fun i => rawInt (i : Nat)).toArray)).push (sitN (.ref h.objs.size) a 0 es.size ep), g, d', t, os⟩) :
 wpAny (model prog w) A (pyIter (.ref a)) Q E ⟨h, g, d, t, os⟩ := by
 have hT : (⟨h, g, d, t, os⟩ : Shared).TypeIs (.ref a) "set" := ⟨_, hx, rfl⟩
 refine wpAny_pyIter_slot hT PySem.F.slot_set_iter ?_
 refine wpAny_call_entry PySem.F.slot_set_iter hT entry_set_iter ?_ (args_set_iter _)
 have hst : ∀ {A : Around} {E : Value → Shared → Prop} {Q : (Array (Int × Value) × Nat × SetTable) → Shared → Prop}, Q (es, ep, tb) ⟨h, g, d, t, os⟩ → wpAny (model prog w) A (setState a) Q E ⟨h, g, d, t, os⟩ := fun hq => wpAny_setState_of hx rfl hf hq
 repeat (any_goals (first | assumption | (with_reducible refine hst ?_) | wp_step))
 refine wpAny_askSetting ?_
 refine wpAny_pure (wpAny_pure ?_)
 cases hby : w.params.followText "set-order" with
 | true =>
  rw [if_neg (by show ¬ ((!w.params.followText "set-order" && (!tb.plain && decide (es.size > 1))) = true); rw [hby]; simp)]
  unfold setEpoch
  repeat (any_goals (first | assumption | (with_reducible refine hst ?_) | wp_step))
  exact ⟨_, rfl, "set_iterator", .builtin "set_iterator.__next__", ⟨_, Heap.get?_push_size _ rfl, rfl⟩, slot_sit_next.lookup, q1 hby⟩
 | false =>
  rw [if_pos (by show (!w.params.followText "set-order" && (!tb.plain && decide (es.size > 1))) = true; rw [hby, hpl]; simp; lia)]
  refine wpAny_bind (drawS es.size (List.range es.size) _ (by simp) (fun ys d' hp => ?_))
  have hyl : ys.length = es.size := by rw [hp.length_eq]; simp
  refine wpAny_bind (wpAny_newTuple ?_ (by rw [PySem.sizeLine_eq]; simp; lia))
  unfold setEpoch
  have hx' : (h.push (tupO (ys.map fun i => rawInt (i : Nat)).toArray)).get? a = some (⟨.type "set", none, .set es ep tb, #[]⟩ : Obj) := Heap.get?_push_of_some _ hx
  have hst' : ∀ {A : Around} {E : Value → Shared → Prop} {Q : (Array (Int × Value) × Nat × SetTable) → Shared → Prop}, Q (es, ep, tb) ⟨h.push (tupO (ys.map fun i => rawInt (i : Nat)).toArray), g, d', t, os⟩ → wpAny (model prog w) A (setState a) Q E ⟨h.push (tupO (ys.map fun i => rawInt (i : Nat)).toArray), g, d', t, os⟩ := fun hq => wpAny_setState_of hx' rfl hf hq
  repeat (any_goals (first | assumption | (with_reducible refine hst' ?_) | wp_step))
  refine ⟨_, rfl, "set_iterator", .builtin "set_iterator.__next__", ⟨_, Heap.get?_push_size _ rfl, rfl⟩, slot_sit_next.lookup, ?_⟩
  have := q2 ys d' hby hp
  rw [show (h.push (tupO (ys.map fun i => rawInt (i : Nat)).toArray)).objs.size = h.objs.size + 1 from size_push' ..]
  exact this
end
section
variable {prog : Program} {w : World} {A : Around} {E : Value → Shared → Prop} {h : Heap} {g : Array GenState} {d : Drawn} {t : Nat} {os : OsState} {a it tp : Addr} {es : Array (Int × Value)} {ep i : Nat} {tb : SetTable}
theorem stopS {s : Shared} {Q : Option Value → Shared → Prop} (hh : A.handled = none) (hq : ∀ h', (∀ b o, s.heap.get? b = some o → h'.get? b = some o) → Q none { s with heap := h' }) :
 wpAny (model prog w) A.in1 (do raiseNew (← newExc (.type "StopIteration") []) : Sem PySem.Fin) (fun fin s' => ∃ v, fin = .done (.ret v) ∧ wpAny (model prog w) A (pure (some v)) Q E s')
  (fun e s' => wpAny (model prog w) A (do
  let __do_lift ← isInstance e (Value.type "StopIteration")
  if __do_lift = true then pure none else throw e) Q E s') s := by
 refine wpAny_bind ?_
 simp only [newExc, newTuple]
 refine wpAny_bind (wpAny_newObj_type ?_ (by size_fits))
 refine wpAny_bind (m := firstArgMember _ _) (wpAny_of_eq (a := Value.none) (by first | rfl | (simp only [firstArgMember]; rfl)) ?_)
 refine wpAny_newObj_type ?_ (by size_fits)
 simp only [raiseNew]
 refine wpAny_bind (wpAny_handled ?_)
 rw [show A.in1.handled = none from hh]
 refine wpAny_bind (wpAny_pure (wpAny_throw ?_))
 refine wpAny_bind (wpAny_isInstance (T := "StopIteration") (b := true) ⟨_, Heap.get?_push_size _ rfl, rfl⟩ isSubtype_stop ?_)
 exact wpAny_pure (hq _ fun b o e => Heap.get?_push_of_some _ (Heap.get?_push_of_some _ e))
theorem setNextT {x : Value} {hv : Int} {Q : Option Value → Shared → Prop} (hby : w.params.followText "set-order" = true) (hx : h.get? a = some (⟨.type "set", none, .set es ep tb, #[]⟩ : Obj)) (hi : h.get? it = some (sitN (rawInt 0) a i es.size ep)) (hf : tb.fits es.size = true) (he : (pickOrder (w.params.setOrder a ep) es)[i]? = some (hv, x))
 (hq : ∀ h', Heap.SameBut it h h' → h'.get? it = some (sitN (rawInt 0) a (i + 1) es.size ep) → Q (some x) ⟨h', g, d, t, os⟩) : wpAny (model prog w) A (pyNext (.ref it)) Q E ⟨h, g, d, t, os⟩ := by
 have hT : (⟨h, g, d, t, os⟩ : Shared).TypeIs (.ref it) "set_iterator" := ⟨_, hi, rfl⟩
 have hst : ∀ {A : Around} {E : Value → Shared → Prop} {Q : (Array (Int × Value) × Nat × SetTable) → Shared → Prop}, Q (es, ep, tb) ⟨h, g, d, t, os⟩ → wpAny (model prog w) A (setState a) Q E ⟨h, g, d, t, os⟩ := fun hq => wpAny_setState_of hx rfl hf hq
 unfold pyNext
 refine wpAny_bind (wpAny_attempt (wpAny_callSpecial?_slot (name := ofString "__next__") hT slot_sit_next (wpAny_call_entry slot_sit_next hT entry_sit_next ?_ (args_sit_next _))))
 unfold Builtin.«set_iterator.__next__»
 refine wpAny_bind (wpAny_of_eq (a := (.ref it, [])) (by rfl) ?_)
 refine wpAny_bind (wpAny_fieldsOf hi rfl ?_)
 show wpAny _ _ (setEntries a >>= _) _ _ _
 unfold setEntries
 refine wpAny_bind (wpAny_bind (hst (wpAny_pure ?_)))
 rw [if_neg (by simp)]
 show wpAny _ _ (setNext a 0 (i : Int).toNat (ep : Int).toNat >>= _) _ _ _
 rw [Int.toNat_natCast, Int.toNat_natCast]
 refine wpAny_bind ?_
 unfold setNext
 refine wpAny_bind (hst ?_)
 unfold setsByText
 refine wpAny_bind (wpAny_bind (wpAny_askSetting (wpAny_pure ?_)))
 refine KFB.if_so hby ?_
 dsimp only
 rw [if_neg (by simp)]
 unfold setWalk
 refine wpAny_bind (wpAny_bind (hst ?_))
 unfold setsByText
 refine wpAny_bind (wpAny_bind (wpAny_askSetting (wpAny_pure ?_)))
 refine KFB.if_so hby ?_
 refine wpAny_bind (wpAny_askSetting (wpAny_pure ?_))
 refine wpAny_pure ?_
 erw [he]
 refine wpAny_bind (wpAny_setField (s := ⟨h, g, d, t, os⟩) hi rfl (by show 0 < 5; decide) ?_)
 have e1 : (h.update it (Obj.mapFields (·.setIfInBounds 0 (rawInt 0)))).get? it = some (sitN (rawInt 0) a i es.size ep) := Heap.get?_update_self _ hi rfl
 refine wpAny_bind (wpAny_setField (s := ⟨_, g, d, t, os⟩) e1 rfl (by show 1 < 5; decide) ?_)
 have e2 : ((h.update it (Obj.mapFields (·.setIfInBounds 0 (rawInt 0)))).update it (Obj.mapFields (·.setIfInBounds 1 (rawInt ((i : Int) + 1))))).get? it = some (sitN (rawInt 0) a (i + 1) es.size ep) := Heap.get?_update_self _ e1 rfl
 exact wpAny_pure ⟨_, rfl, wpAny_pure (hq _ ((Heap.SameBut.update ..).trans (Heap.SameBut.update ..)) e2)⟩
theorem setEndT {Q : Option Value → Shared → Prop} (hh : A.handled = none) (hby : w.params.followText "set-order" = true) (hx : h.get? a = some (⟨.type "set", none, .set es ep tb, #[]⟩ : Obj)) (hi : h.get? it = some (sitN (rawInt 0) a i es.size ep)) (hf : tb.fits es.size = true) (he : (pickOrder (w.params.setOrder a ep) es)[i]? = none)
 (hq : ∀ h', Heap.ExtBut it h h' → Q none ⟨h', g, d, t, os⟩) : wpAny (model prog w) A (pyNext (.ref it)) Q E ⟨h, g, d, t, os⟩ := by
 have hT : (⟨h, g, d, t, os⟩ : Shared).TypeIs (.ref it) "set_iterator" := ⟨_, hi, rfl⟩
 have hst : ∀ {A : Around} {E : Value → Shared → Prop} {Q : (Array (Int × Value) × Nat × SetTable) → Shared → Prop}, Q (es, ep, tb) ⟨h, g, d, t, os⟩ → wpAny (model prog w) A (setState a) Q E ⟨h, g, d, t, os⟩ := fun hq => wpAny_setState_of hx rfl hf hq
 unfold pyNext
 refine wpAny_bind (wpAny_attempt (wpAny_callSpecial?_slot (name := ofString "__next__") hT slot_sit_next (wpAny_call_entry slot_sit_next hT entry_sit_next ?_ (args_sit_next _))))
 unfold Builtin.«set_iterator.__next__»
 refine wpAny_bind (wpAny_of_eq (a := (.ref it, [])) (by rfl) ?_)
 refine wpAny_bind (wpAny_fieldsOf hi rfl ?_)
 show wpAny _ _ (setEntries a >>= _) _ _ _
 unfold setEntries
 refine wpAny_bind (wpAny_bind (hst (wpAny_pure ?_)))
 rw [if_neg (by simp)]
 show wpAny _ _ (setNext a 0 (i : Int).toNat (ep : Int).toNat >>= _) _ _ _
 rw [Int.toNat_natCast, Int.toNat_natCast]
 refine wpAny_bind ?_
 unfold setNext
 refine wpAny_bind (hst ?_)
 unfold setsByText
 refine wpAny_bind (wpAny_bind (wpAny_askSetting (wpAny_pure ?_)))
 refine KFB.if_so hby ?_
 dsimp only
 rw [if_neg (by simp)]
 unfold setWalk
 refine wpAny_bind (wpAny_bind (hst ?_))
 unfold setsByText
 refine wpAny_bind (wpAny_bind (wpAny_askSetting (wpAny_pure ?_)))
 refine KFB.if_so hby ?_
 refine wpAny_bind (wpAny_askSetting (wpAny_pure ?_))
 refine wpAny_pure ?_
 erw [he]
 show wpAny _ _ (setField (.ref it) 2 .none >>= _) _ _ _
 refine wpAny_bind (wpAny_setField (s := ⟨h, g, d, t, os⟩) hi rfl (by show 2 < 5; decide) ?_)
 exact stopS hh fun h' hk => hq h' fun b o hb e => hk _ _ ((Heap.SameBut.update ..).extBut b o hb e)
theorem setNextD {x : Value} {hv : Int} {ys : List Nat} {j : Nat} {Q : Option Value → Shared → Prop} (hx : h.get? a = some (⟨.type "set", none, .set es ep tb, #[]⟩ : Obj)) (hi : h.get? it = some (sitN (.ref tp) a i es.size ep)) (htp : h.get? tp = some (tupO (ys.map fun i => rawInt (i : Nat)).toArray)) (hf : tb.fits es.size = true) (hj : ys[i]? = some j) (he : es[j]? = some (hv, x))
 (hq : ∀ h', Heap.SameBut it h h' → h'.get? it = some (sitN (.ref tp) a (i + 1) es.size ep) → Q (some x) ⟨h', g, d, t, os⟩) : wpAny (model prog w) A (pyNext (.ref it)) Q E ⟨h, g, d, t, os⟩ := by
 have hT : (⟨h, g, d, t, os⟩ : Shared).TypeIs (.ref it) "set_iterator" := ⟨_, hi, rfl⟩
 have hst : ∀ {A : Around} {E : Value → Shared → Prop} {Q : (Array (Int × Value) × Nat × SetTable) → Shared → Prop}, Q (es, ep, tb) ⟨h, g, d, t, os⟩ → wpAny (model prog w) A (setState a) Q E ⟨h, g, d, t, os⟩ := fun hq => wpAny_setState_of hx rfl hf hq
 unfold pyNext
 refine wpAny_bind (wpAny_attempt (wpAny_callSpecial?_slot (name := ofString "__next__") hT slot_sit_next (wpAny_call_entry slot_sit_next hT entry_sit_next ?_ (args_sit_next _))))
 unfold Builtin.«set_iterator.__next__»
 refine wpAny_bind (wpAny_of_eq (a := (.ref it, [])) (by rfl) ?_)
 refine wpAny_bind (wpAny_fieldsOf hi rfl ?_)
 show wpAny _ _ (setEntries a >>= _) _ _ _
 unfold setEntries
 refine wpAny_bind (wpAny_bind (hst (wpAny_pure ?_)))
 rw [if_neg (by simp)]
 show wpAny _ _ (seqItems? (.ref tp) >>= _) _ _ _
 refine wpAny_bind (wpAny_seqItems htp rfl ?_)
 have hp : (ys.map fun i => rawInt (i : Nat)).toArray[((i : Nat) : Int).toNat]? = some (rawInt j) := by simp [hj]
 dsimp only
 rw [hp]
 show wpAny _ _ (setNextDrawn a (j : Int).toNat (ep : Int).toNat >>= _) _ _ _
 rw [Int.toNat_natCast, Int.toNat_natCast]
 unfold setNextDrawn
 refine wpAny_bind (wpAny_bind (hst ?_))
 dsimp only
 rw [if_neg (by simp), he]
 refine wpAny_pure ?_
 refine wpAny_bind (wpAny_setField (s := ⟨h, g, d, t, os⟩) hi rfl (by show 1 < 5; decide) ?_)
 have e2 : (h.update it (Obj.mapFields (·.setIfInBounds 1 (rawInt ((i : Int) + 1))))).get? it = some (sitN (.ref tp) a (i + 1) es.size ep) := Heap.get?_update_self _ hi rfl
 exact wpAny_pure ⟨_, rfl, wpAny_pure (hq _ (Heap.SameBut.update ..) e2)⟩
theorem setEndD {ys : List Nat} {Q : Option Value → Shared → Prop} (hh : A.handled = none) (hx : h.get? a = some (⟨.type "set", none, .set es ep tb, #[]⟩ : Obj)) (hi : h.get? it = some (sitN (.ref tp) a i es.size ep)) (htp : h.get? tp = some (tupO (ys.map fun i => rawInt (i : Nat)).toArray)) (hf : tb.fits es.size = true) (hj : ys[i]? = none)
 (hq : ∀ h', Heap.ExtBut it h h' → Q none ⟨h', g, d, t, os⟩) : wpAny (model prog w) A (pyNext (.ref it)) Q E ⟨h, g, d, t, os⟩ := by
 have hT : (⟨h, g, d, t, os⟩ : Shared).TypeIs (.ref it) "set_iterator" := ⟨_, hi, rfl⟩
 have hst : ∀ {A : Around} {E : Value → Shared → Prop} {Q : (Array (Int × Value) × Nat × SetTable) → Shared → Prop}, Q (es, ep, tb) ⟨h, g, d, t, os⟩ → wpAny (model prog w) A (setState a) Q E ⟨h, g, d, t, os⟩ := fun hq => wpAny_setState_of hx rfl hf hq
 unfold pyNext
 refine wpAny_bind (wpAny_attempt (wpAny_callSpecial?_slot (name := ofString "__next__") hT slot_sit_next (wpAny_call_entry slot_sit_next hT entry_sit_next ?_ (args_sit_next _))))
 unfold Builtin.«set_iterator.__next__»
 refine wpAny_bind (wpAny_of_eq (a := (.ref it, [])) (by rfl) ?_)
 refine wpAny_bind (wpAny_fieldsOf hi rfl ?_)
 show wpAny _ _ (setEntries a >>= _) _ _ _
 unfold setEntries
 refine wpAny_bind (wpAny_bind (hst (wpAny_pure ?_)))
 rw [if_neg (by simp)]
 show wpAny _ _ (seqItems? (.ref tp) >>= _) _ _ _
 refine wpAny_bind (wpAny_seqItems htp rfl ?_)
 have hp : (ys.map fun i => rawInt (i : Nat)).toArray[((i : Nat) : Int).toNat]? = none := by simp [hj]
 dsimp only
 rw [hp]
 show wpAny _ _ (setField (.ref it) 0 (rawInt 0) >>= _) _ _ _
 refine wpAny_bind (wpAny_setField (s := ⟨h, g, d, t, os⟩) hi rfl (by show 0 < 5; decide) ?_)
 have e1 : (h.update it (Obj.mapFields (·.setIfInBounds 0 (rawInt 0)))).get? it = some (sitN (rawInt 0) a i es.size ep) := Heap.get?_update_self _ hi rfl
 refine wpAny_bind (wpAny_setField (s := ⟨_, g, d, t, os⟩) e1 rfl (by show 2 < 5; decide) ?_)
 exact stopS hh fun h' hk => hq h' fun b o hb e => hk _ _ (((Heap.SameBut.update ..).trans (Heap.SameBut.update ..)).extBut b o hb e)
end
structure WkN (prog : Program) (w : World) (A : Around) (B : Heap) (os : OsState) (it : Addr) (srcs : List Cell) (IT : List Value → Obj → Prop) : Prop where
 next : ∀ {E : Value → Shared → Prop} {Q : Option Value → Shared → Prop} {G L m news s v rem oit}, IT (v :: rem) oit → (∀ p ∈ srcs, p ∈ news) → St B os G L m ((it, oit) :: news) s → (∀ oit' s', IT rem oit' → St B os G L m ((it, oit') :: news) s' → Q (some v) s') → wpAny (model prog w) A (pyNext (.ref it)) Q E s
 fin : ∀ {E : Value → Shared → Prop} {Q : Option Value → Shared → Prop} {G L m news s oit}, IT [] oit → (∀ p ∈ srcs, p ∈ news) → St B os G L m ((it, oit) :: news) s → (∀ s', St B os G L m news s' → Q none s') → wpAny (model prog w) A (pyNext (.ref it)) Q E s
section
variable {prog : Program} {w : World} {A : Around} {E : Value → Shared → Prop} {s s' : Shared} {B : Heap} {os : OsState} {G : Array GenState} {L a l it tp : Addr} {m : Str → Option Value} {news : List Cell}
theorem extLoop {srcs : List Cell} {IT : List Value → Obj → Prop} {R : Result → Shared → Prop} (W : WkN prog w A.in1 B os it srcs IT) (hs : ∀ p ∈ srcs, p ∈ news) {all : List Value} (hz : all.length ≤ 1000)
 (h : ∀ n s', St B os G L m ((l, listOf all.toArray n) :: news) s' → R (.ok (.ret (.ref l))) s') : ∀ (rem done : List Value) (oit : Obj) (n : Nat) (s : Shared), done ++ rem = all → IT rem oit → St B os G L m ((it, oit) :: (l, listOf done.toArray n) :: news) s →
  codeAny (model prog w) A (.builtin "list.extend.loop" ⟨[.ref l, .ref it, .ref l], []⟩) R s
 | [], done, oit, n, s, hd, hi, S => by
  rw [List.append_nil] at hd
  subst hd
  refine codeAny_builtin PySem.F.entry_extend_loop ?_
  rw [Around.under_plainId (by decide +kernel) _]
  show wpAny _ _ (pyNext (.ref it) >>= _) _ _ _
  refine wpAny_bind (W.fin hi (fun p hp => .tail _ (hs p hp)) S (fun s S => ?_))
  exact wpAny_pure (h _ _ S)
 | v :: rem, done, oit, n, s, hd, hi, S => by
  refine codeAny_builtin PySem.F.entry_extend_loop ?_
  rw [Around.under_plainId (by decide +kernel) _]
  show wpAny _ _ (pyNext (.ref it) >>= _) _ _ _
  refine wpAny_bind (W.next hi (fun p hp => .tail _ (hs p hp)) S (fun oit' s hi' S => ?_))
  dsimp only
  have hlen : done.length + 1 + rem.length ≤ 1000 := by
   have := congrArg List.length hd
   simp at this
   lia
  have e : (done.toArray).push v = (done ++ [v]).toArray := by simp
  refine wpAny_bind (updL (f := (·.push v)) (news' := fun n' => (it, oit') :: (l, listOf ((done.toArray).push v) n') :: news) S (fun n' => Up.tail Up.head) (fun n' s S => ?_) (by rw [PySem.sizeLine_eq]; simp; lia) (by rw [PySem.sizeLine_eq]; simp; lia))
  rw [e] at S
  refine wpAny_pure ⟨Code.quiet_builtin _ (by decide +kernel), ?_⟩
  exact extLoop W hs hz h rem (done ++ [v]) oit' n' _ (by rw [← hd]; simp) hi' S
theorem wkSetT {es : Array (Int × Value)} {ep : Nat} {tb : SetTable} (hh : A.handled = none) (hby : w.params.followText "set-order" = true) (hf : tb.fits es.size = true) :
 WkN prog w A B os it [(a, (⟨.type "set", none, .set es ep tb, #[]⟩ : Obj))] (fun rem oit => ∃ i, oit = sitN (rawInt 0) a i es.size ep ∧ ((pickOrder (w.params.setOrder a ep) es).toList.map (·.2)).drop i = rem) where
 next := fun {E Q G L m news s v rem oit} ⟨i, e, hr⟩ hs S k => by
  subst e
  have hlt : i < (pickOrder (w.params.setOrder a ep) es).toList.length := by
   rcases Nat.lt_or_ge i (pickOrder (w.params.setOrder a ep) es).toList.length with q | q
   · exact q
   · rw [List.drop_eq_nil_of_le (by simpa using q)] at hr; cases hr
  rw [List.drop_eq_getElem_cons (by simpa using hlt)] at hr
  have h1 := S.get (.tail _ (hs _ (.head _)))
  have h2 := S.get (.head _)
  have he : (pickOrder (w.params.setOrder a ep) es)[i]? = some ((pickOrder (w.params.setOrder a ep) es).toList[i].1, v) := by
   rw [← Array.getElem?_toList, List.getElem?_eq_getElem hlt]
   have := (List.cons.inj hr).1
   rw [List.getElem_map] at this
   rw [← this]
  obtain ⟨hp, g, d, tk, oo⟩ := s
  exact setNextT hby h1 h2 hf he (fun h' sb e => k _ _ ⟨i + 1, rfl, (List.cons.inj hr).2⟩ (S.same (t := tk) Up.head sb e))
 fin := fun {E Q G L m news s oit} ⟨i, e, hr⟩ hs S k => by
  subst e
  have h1 := S.get (.tail _ (hs _ (.head _)))
  have h2 := S.get (.head _)
  have he : (pickOrder (w.params.setOrder a ep) es)[i]? = none := by
   have := List.drop_eq_nil_iff.mp hr
   rw [← Array.getElem?_toList]
   exact List.getElem?_eq_none (by simpa using this)
  obtain ⟨hp, g, d, tk, oo⟩ := s
  exact setEndT hh hby h1 h2 hf he (fun h' hx => k _ (S.lost (t := tk) hx))
theorem wkSetD {es : Array (Int × Value)} {ep : Nat} {tb : SetTable} {ys : List Nat} (hh : A.handled = none) (hf : tb.fits es.size = true) (hys : ∀ j ∈ ys, j < es.size) :
 WkN prog w A B os it [(a, (⟨.type "set", none, .set es ep tb, #[]⟩ : Obj)), (tp, tupO (ys.map fun i => rawInt (i : Nat)).toArray)] (fun rem oit => ∃ i, oit = sitN (.ref tp) a i es.size ep ∧ (ys.map fun j => (es.toList.getD j (0, .none)).2).drop i = rem) where
 next := fun {E Q G L m news s v rem oit} ⟨i, e, hr⟩ hs S k => by
  subst e
  have hlt : i < ys.length := by
   rcases Nat.lt_or_ge i ys.length with q | q
   · exact q
   · rw [List.drop_eq_nil_of_le (by simpa using q)] at hr; cases hr
  rw [List.drop_eq_getElem_cons (by simpa using hlt)] at hr
  have h1 := S.get (.tail _ (hs _ (.head _)))
  have h3 := S.get (.tail _ (hs _ (.tail _ (.head _))))
  have h2 := S.get (.head _)
  have hj : ys[i] < es.toList.length := by simpa using hys _ (List.getElem_mem hlt)
  have he : es[ys[i]]? = some (es.toList[ys[i]].1, v) := by
   rw [← Array.getElem?_toList, List.getElem?_eq_getElem hj]
   have := (List.cons.inj hr).1
   rw [List.getElem_map] at this
   rw [← this]
   simp only [List.getD_eq_getElem?_getD, List.getElem?_eq_getElem hj, Option.getD_some]
  obtain ⟨hp, g, d, tk, oo⟩ := s
  exact setNextD h1 h2 h3 hf (List.getElem?_eq_getElem hlt) he (fun h' sb e => k _ _ ⟨i + 1, rfl, (List.cons.inj hr).2⟩ (S.same (t := tk) Up.head sb e))
 fin := fun {E Q G L m news s oit} ⟨i, e, hr⟩ hs S k => by
  subst e
  have h1 := S.get (.tail _ (hs _ (.head _)))
  have h3 := S.get (.tail _ (hs _ (.tail _ (.head _))))
  have h2 := S.get (.head _)
  have he : ys[i]? = none := by
   have := List.drop_eq_nil_iff.mp hr
   exact List.getElem?_eq_none (by simpa using this)
  obtain ⟨hp, g, d, tk, oo⟩ := s
  exact setEndD hh h1 h2 h3 hf he (fun h' hx => k _ (S.lost (t := tk) hx))
theorem ent_vals {prog : Program} {w : World} {vs : List Value} {l : List (Str × Tok)} (h : vs.Perm ((l.map (entS prog w)).map (·.2))) : ∃ l', vs = strValues l' ∧ l'.Perm l := by
 have e : (l.map (entS prog w)).map (·.2) = strValues l := by simp [strValues]
 rw [e] at h
 have z : vs.map (fun v => match v with | .str x t => (x, t) | _ => (Str.empty, 0)) |>.Perm l := by
  have := h.map (fun v => match v with | .str x t => (x, t) | _ => (Str.empty, 0))
  have e2 : (strValues l).map (fun v => match v with | .str x t => (x, t) | _ => (Str.empty, 0)) = l := by
   simp [strValues, Function.comp_def]
  rw [e2] at this
  exact this
 refine ⟨_, ?_, z⟩
 have : ∀ v ∈ vs, Value.str ((match v with | .str x t => (x, t) | _ => (Str.empty, 0) : Str × Tok)).1 ((match v with | .str x t => (x, t) | _ => (Str.empty, 0) : Str × Tok)).2 = v := fun v hv => by
  have hm := h.subset hv
  obtain ⟨p, _, rfl⟩ := List.mem_map.mp (show v ∈ l.map fun p => Value.str p.1 p.2 from hm)
  rfl
 rw [strValues, List.map_map]
 exact (List.map_id'' (l := vs) (f := _) (by intro v; rfl) |> fun _ => by
  refine (List.map_congr_left (g := id) fun v hv => this v hv).symm ▸ ?_
  simp)
end
section
variable {prog : Program} {w : World} {A : Around} {E : Value → Shared → Prop} {s s' : Shared} {B : Heap} {os : OsState} {G : Array GenState} {L a l it tp : Addr} {m : Str → Option Value} {news : List Cell} {o : Obj}
theorem St.dr (S : St B os G L m news s) {d : Drawn} : St B os G L m news { s with drawn := d } := ⟨S.F, S.N, S.nd, S.gens, S.bare, S.os⟩
theorem collectP {lt : List (Str × Tok)} {Q : List Value → Shared → Prop} (hh : A.handled = none) (S : St B os G L m news s) (ha : (a, o) ∈ news) (ho : SetP prog w o lt) (h2 : 2 ≤ lt.length) (hz : lt.length < 60) (h : ∀ l' s', l'.Perm lt → St B os G L m news s' → Q (strValues l') s') : wpAny (model prog w) A (collect (.ref a)) Q E s := by
 obtain ⟨es, ep, tb, rfl, f1, f2, f3⟩ := ho.ex
 have hsz : es.size = lt.length := by rw [← Array.length_toList, f2.length_eq, List.length_map]
 unfold collect
 refine wpAny_bind (wpAny_runValue (codeAny_builtin entry_proto_collect' ?_))
 show wpAny _ _ (do again (.builtin "list.__iadd__" ⟨[← newList [], .ref a], []⟩)) _ _ s
 refine wpAny_bind (listS S (fun l s S => wpAny_pure ⟨Code.quiet_builtin _ (by decide +kernel), codeAny_builtin entry_list_iadd' ?_⟩))
 rw [Around.under_plainId (by decide +kernel) _]
 show wpAny _ _ (Builtin.List.listExtendWith (.ref l) (.ref a) (.ref l)) _ _ _
 unfold Builtin.List.listExtendWith
 have hT : s.TypeIs (.ref a) "set" := ⟨_, S.get (.tail _ ha), rfl⟩
 refine wpAny_bind (wpAny_typeOf hT ?_)
 have hla : (l == a) = false := by
  have nd := S.nd
  rw [List.map_cons, List.nodup_cons] at nd
  exact beq_false_of_ne fun e => nd.1 (by show l ∈ _; rw [e]; exact List.mem_map_of_mem (f := Prod.fst) ha)
 refine KFB.if_not (by show ((l == a) || _ || _) = false; rw [hla]; decide) ?_
 have hx := S.get (.tail _ ha)
 obtain ⟨hp, g, d, tk, oo⟩ := s
 refine wpAny_bind (setIterN hx f1 f3 (by lia) (by lia) (fun hby => ?_) (fun ys d' hby hpm => ?_))
 · have S1 := S.push (t := tk) (sitN (rawInt 0) a 0 es.size ep)
   obtain ⟨l', e', p'⟩ := ent_vals (prog := prog) (w := w) (vs := (pickOrder (w.params.setOrder a ep) es).toList.map (·.2)) (l := lt) (((pick_perm _ es).trans f2).map (·.2))
   have W := wkSetT (prog := prog) (w := w) (A := A.in1) (B := B) (os := os) (it := hp.objs.size) (a := a) (es := es) (ep := ep) (tb := tb) hh hby f1
   refine wpAny_bind (wpAny_holding (hintSet ⟨_, S1.get (.tail _ (.tail _ ha)), rfl⟩ ?_))
   refine KFB.if_so (by decide +kernel) ?_
   refine wpAny_bind (wpAny_rule ?_)
   unfold Builtin.List.listTouch
   refine wpAny_bind (wpAny_bind (updL S1 (fun n' => Up.tail Up.head) (fun n1 s S => ?_) (by decide) (by decide)))
   refine updL S (fun n' => Up.tail Up.head) (fun n2 s S => ?_) (by decide) (by decide)
   refine wpAny_pure ⟨Code.quiet_builtin _ (by decide +kernel), ?_⟩
   refine extLoop W (fun p hp => by rcases List.mem_singleton.mp hp with rfl; exact ha) (by show (strValues l').length ≤ 1000; rw [strValues, List.length_map, p'.length_eq]; lia) (fun n s S => ?_) (strValues l') [] _ n2 _ rfl ⟨0, rfl, by rw [← e']; rfl⟩ S
   refine wpAny_bind (wpAny_load (S.get (.head _)) ?_)
   exact wpAny_pure (h l' _ p' (S.drop (List.sublist_cons_self _ _)))
 · have S0 := (St.dr (d := d') S).push (t := tk) (tupO (ys.map fun i => rawInt (i : Nat)).toArray)
   have S1 := S0.push (t := tk) (sitN (.ref hp.objs.size) a 0 es.size ep)
   rw [show (hp.push (tupO (ys.map fun i => rawInt (i : Nat)).toArray)).objs.size = hp.objs.size + 1 from size_push' ..] at S1
   have S1 := S1.perm (List.Perm.cons _ (List.Perm.swap ..))
   have hlt : ∀ j ∈ ys, j < es.size := fun j hj => by simpa using hpm.subset hj
   have ev : (ys.map fun j => (es.toList.getD j (0, .none)).2).Perm ((lt.map (entS prog w)).map (·.2)) := by
    refine List.Perm.trans ?_ (f2.map (·.2))
    have e1 : es.toList.map (·.2) = (List.range es.size).map fun j => (es.toList.getD j (0, .none)).2 := by
     apply List.ext_getElem
     · simp
     · intro i h1 h2
       have : i < es.toList.length := by simpa using h1
       simp only [List.getElem_map, List.getElem_range, List.getD_eq_getElem?_getD, List.getElem?_eq_getElem this, Option.getD_some]
    rw [e1]
    exact hpm.map _
   obtain ⟨l', e', p'⟩ := ent_vals ev
   have W := wkSetD (prog := prog) (w := w) (A := A.in1) (B := B) (os := os) (it := hp.objs.size + 1) (a := a) (tp := hp.objs.size) (es := es) (ep := ep) (tb := tb) (ys := ys) hh f1 hlt
   refine wpAny_bind (wpAny_holding (hintSet ⟨_, S1.get (.tail _ (.tail _ (.tail _ ha))), rfl⟩ ?_))
   refine KFB.if_so (by decide +kernel) ?_
   refine wpAny_bind (wpAny_rule ?_)
   unfold Builtin.List.listTouch
   refine wpAny_bind (wpAny_bind (updL S1 (fun n' => Up.tail Up.head) (fun n1 s S => ?_) (by decide) (by decide)))
   refine updL S (fun n' => Up.tail Up.head) (fun n2 s S => ?_) (by decide) (by decide)
   refine wpAny_pure ⟨Code.quiet_builtin _ (by decide +kernel), ?_⟩
   refine extLoop W (fun p hp => ?_) (by show (strValues l').length ≤ 1000; rw [strValues, List.length_map, p'.length_eq]; lia) (fun n s S => ?_) (strValues l') [] _ n2 _ rfl ⟨0, rfl, by rw [← e']; rfl⟩ S
   · rcases List.mem_cons.mp hp with rfl | hp
     · exact .tail _ ha
     · rcases List.mem_singleton.mp hp with rfl
       exact .head _
   · refine wpAny_bind (wpAny_load (S.get (.head _)) ?_)
     exact wpAny_pure (h l' _ p' (S.drop ((List.sublist_cons_self _ _).trans (List.sublist_cons_self _ _))))
theorem collectQ {lt : List (Str × Tok)} {Q : List Value → Shared → Prop} (hh : A.handled = none) (S : St B os G L m news s) (ha : (a, o) ∈ news) (ho : SetQ prog w o lt) (hz : lt.length < 60) (h : ∀ l' s', l'.Perm lt → St B os G L m news s' → Q (strValues l') s') : wpAny (model prog w) A (collect (.ref a)) Q E s := by
 rcases ho with ⟨k, t, rfl, h1⟩ | ⟨h2, h1⟩
 · exact collectOne hh S ha h1 (fun s S => h [(k, t)] s (.refl _) S)
 · exact collectP hh S ha h1 h2 hz h
theorem sortedQ {lt : List (Str × Tok)} {f : Addr} {key : Str → List Str} {Q : Value → Shared → Prop} (hh : A.handled = none) (hu : A.in1.in1.units < cLine) (S : St B os G L m news s) (ha : (a, o) ∈ news) (ho : SetQ prog w o lt) (h1 : 1 ≤ lt.length) (hz : lt.length < 60) (hnd : ((txs lt).map key).Nodup)
 (turn : ∀ x t own s', x ∈ txs lt → St B os G L m (own ++ news) s' → wpAny (model prog w) A.in1.in1 (call (.ref f) [.str x t]) (fun r s₂ => ∃ kk l n, r = .ref kk ∧ txs l = key x ∧ St B os G L m ((kk, listOf (strValues l).toArray n) :: (own ++ news)) s₂) (fun _ _ => False) s')
 (h : ∀ l n l' s', txs l' = lsort key (txs lt) → St B os G L m ((l, listOf (strValues l').toArray n) :: news) s' → Q (.ref l) s') : wpAny (model prog w) A (call (.builtin "sorted") [.ref a] [(ofString "key", .ref f)]) Q E s := by
 refine call_function_entry_kw kind_sorted plain_sorted entry_sorted (ksk_s1 _ _) ?_
 unfold Builtin.«sorted»
 refine wpAny_bind (m := checkCount "sorted" 1 1 _) (wpAny_pure ?_)
 refine wpAny_bind (collectQ hh S ha ho hz (fun l' s hp S => ?_))
 refine wpAny_bind (listS S (fun l s S => ?_) (by rw [PySem.sizeLine_eq, strValues, List.length_map, hp.length_eq]; lia))
 refine wpAny_bind (wpAny_holding (wpAny_call_entry_kw slot_list_sort ⟨_, S.get (.head _), rfl⟩ entry_list_sort ?_ (ksk_l1 _ _)))
 show wpAny (model prog w) A.in1.in1 (Builtin.«list.sort» ⟨[.ref l], [(ofString "key", .ref f)]⟩) _ _ _
 rw [ksk_t1]
 have e1 : (l'.map fun p => ((Value.str p.1 p.2, key p.1) : Item)).map (·.1) = strValues l' := by simp [strValues]
 have e2 : (l'.map fun p => ((Value.str p.1 p.2, key p.1) : Item)).map (·.2) = (txs l').map key := by simp
 refine sortKS (T := false) (items := l'.map fun p => ((Value.str p.1 p.2, key p.1) : Item)) (n := 0) (news := news) (fun _ => hu) (by rw [e1]; exact S) ?_ (by rw [List.length_map, hp.length_eq]; lia) (fun x hx own s' S' => ?_) (fun n' s' S' => ?_)
 · rw [e2]
   exact ((hp.map (·.1)).map key).nodup_iff.mpr hnd
 · obtain ⟨p, hp1, rfl⟩ := List.mem_map.mp hx
   exact wpAny_mono (turn p.1 p.2 own s' (List.mem_map_of_mem (hp.subset hp1)) S') (fun r s₂ h => h.elim fun kk h => h.elim fun l h => h.elim fun n h => ⟨[(kk, listOf (strValues l).toArray n)], ⟨kk, l, n, h.1, h.2.1.symm, .head _⟩, h.2.2⟩) fun _ _ z => z
 · have es : lsort ikey (l'.map fun p => ((Value.str p.1 p.2, key p.1) : Item)) = (lsort (fun p : Str × Tok => key p.1) l').map fun p => ((Value.str p.1 p.2, key p.1) : Item) := by
    symm
    refine lsort_of ((lsort_perm l').map _) ?_
    refine List.pairwise_map.mpr ?_
    refine (lsort_up (key := fun p : Str × Tok => key p.1) ?_)
    have := ((hp.map (·.1)).map key).nodup_iff.mpr hnd
    rw [List.map_map] at this
    exact this
   have ev : (lsort ikey (l'.map fun p => ((Value.str p.1 p.2, key p.1) : Item))).map (·.1) = strValues (lsort (fun p : Str × Tok => key p.1) l') := by
    rw [es, List.map_map]; rfl
   rw [ev] at S'
   refine ⟨_, rfl, wpAny_pure ⟨_, rfl, h l n' _ _ ?_ S'⟩⟩
   refine lsort_of ?_ ?_
   · exact ((lsort_perm l').map (·.1)).trans (hp.map (·.1))
   · refine List.pairwise_map.mpr (lsort_up (key := fun p : Str × Tok => key p.1) ?_)
     have := ((hp.map (·.1)).map key).nodup_iff.mpr hnd
     rw [List.map_map] at this
     exact this
end
section
variable {prog : Program} {w : World} {A : Around} {E : Value → Shared → Prop} {s s' : Shared} {B : Heap} {os : OsState} {G : Array GenState} {L C a P D : Addr} {m mC : Str → Option Value} {news news' : List Cell} {o oL : Obj} {env : Env}
theorem St.compPut {x : Str} {v : Value} {scope : Scope} {cl : List (Str × Addr)} {Q : Unit → Shared → Prop} (S : St B os G C mC news s) (hkind : scope.kind = .function) (hx : scope.names.lookup x = some .local)
 (h : ∀ s', St B os G C (updM mC x v) news s' → Q () s') : wpAny (model prog w) A (storeName (compEnvC scope cl C env) x v) Q E s := by
 refine wpAny_storeName_local (lookup_relabel_local hx) S.F.ns (fun h' hn hs => ?_) (by simp [compEnvC, relabel, hkind])
 refine h { s with heap := h', toks := s.toks + 1 } ⟨⟨hn, fun b o e => (hs.2 b fun q => ?_).trans (S.F.keep b o e), S.F.above⟩, fun p hp => ⟨(hs.2 p.1 (S.N p hp).2.1).trans (S.N p hp).1, (S.N p hp).2⟩, S.nd, S.gens, S.bare, S.os⟩
 have := base_none S.F.above
 rw [q] at e
 exact absurd (e.symm.trans this) (by simp)
theorem newDictS {Q : Value → Shared → Prop} (S : St B os G L m news s) (h : ∀ D s', St B os G L m ((D, dictO #[] 0) :: news) s' → Q (.ref D) s') : wpAny (model prog w) A newDict Q E s :=
 wpAny_newObj_type (h _ _ (S.push (t := s.toks) (dictO #[] 0)))
inductive JD (prog : Program) (w : World) (B : Heap) (os : OsState) (C L : Addr) (oL : Obj) (it D l : Addr) (n : Nat) (vs : List Value) (J : List Value → Array GenState → List Cell → Kvs → Prop) (k : Nat) (s : Shared) : Prop
 | mk {pre rem kvs oD oit mC G news} (hvs : vs = pre ++ rem) (hk : k = rem.length) (hJ : J rem G news kvs) (hit : LI oit l pre.length) (hD : DicO prog w oD kvs) (S : St B os G C mC ((D, oD) :: (L, oL) :: (it, oit) :: (l, listOf vs.toArray n) :: news) s) : JD prog w B os C L oL it D l n vs J k s
theorem JD.elim {P : Prop} {it D l C L : Addr} {oL : Obj} {n : Nat} {vs : List Value} {J : List Value → Array GenState → List Cell → Kvs → Prop} {k : Nat} (h : JD prog w B os C L oL it D l n vs J k s)
 (f : ∀ pre rem kvs oD oit mC G news, vs = pre ++ rem → k = rem.length → J rem G news kvs → LI oit l pre.length → DicO prog w oD kvs → St B os G C mC ((D, oD) :: (L, oL) :: (it, oit) :: (l, listOf vs.toArray n) :: news) s → P) : P := by
 cases h with
 | mk a1 a2 a3 a4 a5 a6 => exact f _ _ _ _ _ _ _ _ a1 a2 a3 a4 a5 a6
theorem dictCompN {kx vx iter : PySem.Expr} {x y : Str} {px py pos spos : Pos} {scope cs : Scope} {cl cl0 : List (Str × Addr)} {cn : Str} {ccd : Value} {Q : Flow → Shared → Prop} (hh : A.handled = none)
 (hsw : swapsWith (.DictComp kx vx [⟨.Name x px, iter, [], 0⟩] scope pos) (some (.Name y py)) spos.line (envX cn cs L a ccd cl0) = pure true)
 (hclos : closureFor scope (envX cn cs L a ccd cl0) = pure cl) (hcell : ∀ z ∈ scope.names, z.2 ≠ .cell) (hkind : scope.kind = .function)
 (hnames : ∀ z ∈ scope.names, z.2 = .local → scope.names.lookup z.1 = some .local) (hx : scope.names.lookup x = some .local) (hy : (envX cn cs L a ccd cl0).kindOf y = some .local) (hck : cs.kind = .function)
 (hs : ∀ x, foldedSetIterable iter (envX cn cs L a ccd cl0) x = pure x) (J : List Value → Array GenState → List Cell → Kvs → Prop) (hJ : ∀ rem G news kvs, J rem G news kvs → kvs.length < 1000)
 (h : wpAny (model prog w) A (eval iter (envX cn cs L a ccd cl0)) (fun v s₁ => ∃ (l : Addr) (vs : List Value) (n : Nat) (G₁ : Array GenState) (news₁ : List Cell), v = .ref l ∧ J vs G₁ news₁ [] ∧ St B os G₁ L m ((l, listOf vs.toArray n) :: news₁) s₁ ∧
  (∀ v rem kvs C D oD oL it oit mC G news s₂ E', J (v :: rem) G news kvs → FrC B L oL m → mC x = some v → St B os G C mC ((D, oD) :: (L, oL) :: (it, oit) :: (l, listOf vs.toArray n) :: news) s₂ →
   wpAny (model prog w) A (eval kx (compEnvC scope cl C (envX cn cs L a ccd cl0))) (fun kv s₃ => wpAny (model prog w) A (eval vx (compEnvC scope cl C (envX cn cs L a ccd cl0))) (fun vv s₄ => ∃ k t G' news', kv = .str k t ∧ J rem G' news' (stored kvs k vv) ∧
    St B os G' C mC ((D, oD) :: (L, oL) :: (it, oit) :: (l, listOf vs.toArray n) :: news') s₄) E' s₃) E' s₂) ∧
  (∀ G news kvs D oD s₅, J [] G news kvs → DicO prog w oD kvs → St B os G L (updM m y (.ref D)) ((D, oD) :: news) s₅ → Q .next s₅)) E s) :
 wpAny (model prog w) A (exec (.Assign [.Name y py] (.DictComp kx vx [⟨.Name x px, iter, [], 0⟩] scope pos) spos) (envX cn cs L a ccd cl0)) Q E s := by
 rw [exec_Assign_Name_used _ _ _ _ hsw]
 refine wpAny_bind (wpAny_standAt (wpAny_bind ?_))
 show wpAny _ A (do let _ ← comprehension (.DictComp kx vx [⟨.Name x px, iter, [], 0⟩] scope pos) scope _ _ newDict false (eval iter _) (some (assign (.Name y py) _))) _ _ s
 refine wpAny_bind (wpAny_mono (wpAny_comprehension_free (use := some (assign (.Name y py) _)) (Q := fun _ s' => Q .next s') rfl hs hclos hkind hnames
  (wpAny_mono h (fun xv s₁ h₁ => ?_) fun _ _ e => e)) (fun _ s' hq => wpAny_pure (wpAny_pure hq)) fun _ _ e => e)
 obtain ⟨l, vs, n, G₁, news₁, exv, hJ0, S, turn, fin⟩ := h₁
 rw [exv]
 refine iterL S (.head _) (fun it oit s hit S => ?_)
 refine newDictS S (fun D s S => ?_)
 refine comp_enter (R := fun C => compPost (model prog w) A E (some (assign (.Name y py) _)) (fun _ s' => Q .next s') _ C) S hcell hkind (fun C oL s f S => ?_)
 have loop : codeAny (model prog w) A (.compLoop (.DictComp kx vx [⟨.Name x px, iter, [], 0⟩] scope pos) 0 (.ref it) (.ref D) (compEnvC scope cl C (envX cn cs L a ccd cl0))) (compPost (model prog w) A E (some (assign (.Name y py) (envX cn cs L a ccd cl0))) (fun _ s' => Q .next s') (.ref D) C) s := by
  refine codeAny_compLoop_testsD (JD prog w B os C L oL it D l n vs J) ?_ vs.length (.mk (pre := []) rfl rfl hJ0 hit ⟨#[], 0, ⟨rfl, rfl, rfl⟩, rfl, (fun e he => by simp at he), .nil, List.nodup_nil⟩ (S.perm (.swap ..)))
  intro k s hI
  refine wabs (fun Q1 E1 hQ1 => ?_)
  refine hI.elim (fun pre rem kvs oD oit mC G news hvs ek hJ1 hit hD S => ?_)
  clear hI
  cases rem with
  | nil =>
   have S1 : St B os G C mC ((it, oit) :: (L, oL) :: (D, oD) :: (l, listOf vs.toArray n) :: news) s := S.perm ((List.Perm.swap _ _ _).trans ((List.Perm.cons _ (.swap _ _ _)).trans (.swap _ _ _)))
   refine endL hh S1 (.tail _ (.tail _ (.head _))) hit (by rw [hvs]; simp) (fun s S => hQ1 _ _ ?_)
   refine comp_some S f (u := assign (.Name y py) (envX cn cs L a ccd cl0)) (m' := updM m y (.ref D)) (fun oC s S => ?_) (fun s S => ?_)
   · exact wpAny_assign_Name (stX S (fun s S => S) hck hy)
   · exact fin G news kvs D oD s hJ1 hD (S.drop (.cons_cons _ (.cons _ (.refl _))))
  | cons v rem =>
   refine nextL S (.tail _ (.tail _ (.tail _ (.head _)))) (fun o' => .tail (.tail .head)) hit (x := v) (by rw [hvs]; simp) (fun oit' s hit' S => hQ1 _ _ ?_)
   refine wpAny_assign_Name (St.compPut S hkind hx (fun s S' => ?_))
   refine wpAny_pure ?_
   rw [if_pos rfl]
   refine wpAny_mono (turn v rem kvs C D oD oL it oit' _ G news _ _ hJ1 f (if_pos rfl) S') (fun kv s₃ h₃ => wpAny_mono h₃ (fun vv s₄ h₄ => ?_) fun _ _ z => z) fun _ _ z => z
   obtain ⟨kk, t, G₂, news₂, ekv, hJ2, S⟩ := h₄
   rw [ekv]
   refine dictSetS (kvs := kvs) S (fun o' => .head) hD (hJ _ _ _ _ hJ1) (fun o' s hd S => ?_)
   exact ⟨rem.length, by rw [ek]; exact Nat.lt_succ_self _, .mk (pre := pre ++ [v]) (by rw [hvs]; simp) rfl hJ2 (by rw [List.length_append]; exact hit') hd S⟩
 exact codeAny_compStart_dict loop (selfL S (.tail _ (.tail _ (.head _))) hit loop)
end
noncomputable abbrev pkey (p : Str × Str) : List Str := [p.1, p.2]
theorem Pairs.zip {c : List Cell} {vs : List Value} {ps : List (Str × Str)} (h : Pairs c vs ps) : ∃ it : List (Value × (Str × Str)), it.map (·.1) = vs ∧ it.map (·.2) = ps ∧ ∀ x ∈ it, ∃ a t1 t2, x.1 = .ref a ∧ (a, tupO #[.str x.2.1 t1, .str x.2.2 t2]) ∈ c := by
 induction h with
 | nil => exact ⟨[], rfl, rfl, fun _ h => nomatch h⟩
 | @cons a u p t1 t2 _ _ x r ih =>
  obtain ⟨it, e1, e2, e3⟩ := ih
  refine ⟨(.ref a, (u, p)) :: it, by simp [e1], by simp [e2], fun y hy => ?_⟩
  rcases List.mem_cons.mp hy with rfl | hy
  · exact ⟨a, t1, t2, rfl, x⟩
  · exact e3 y hy
theorem Pairs.of_zip {c : List Cell} : ∀ {it : List (Value × (Str × Str))}, (∀ x ∈ it, ∃ a t1 t2, x.1 = .ref a ∧ (a, tupO #[.str x.2.1 t1, .str x.2.2 t2]) ∈ c) → Pairs c (it.map (·.1)) (it.map (·.2))
 | [], _ => .nil
 | x :: it, h => by
  obtain ⟨a, t1, t2, e, hm⟩ := h x (.head _)
  rw [List.map_cons, List.map_cons, e]
  exact .cons hm (Pairs.of_zip fun y hy => h y (.tail _ hy))
theorem Pairs.length {c : List Cell} : ∀ {vs : List Value} {ps : List (Str × Str)}, Pairs c vs ps → vs.length = ps.length
 | _, _, .nil => rfl
 | _, _, .cons _ r => by simp [r.length]
section
variable {prog : Program} {w : World} {A : Around} {E : Value → Shared → Prop} {s s' : Shared} {B : Heap} {os : OsState} {G : Array GenState} {L a : Addr} {m : Str → Option Value} {news : List Cell} {o : Obj}
theorem askTup {a b : Addr} {x1 x2 y1 y2 : Str} {t1 t2 u1 u2 : Tok} {Q : Bool → Shared → Prop} (ha : s.heap.get? a = some (tupO #[.str x1 t1, .str x2 t2])) (hb : s.heap.get? b = some (tupO #[.str y1 u1, .str y2 u2])) (h : Q (lLt (pkey (x1, x2)) (pkey (y1, y2))) s) :
 wpAny (model prog w) A (keyLt' (tuples' true) (.ref a) (.ref b)) Q E s := by
 refine kat_lt ha rfl hb rfl ?_
 show KatLex prog w A true false Q [(.str x1 t1, .str y1 u1), (.str x2 t2, .str y2 u2)] 0 s
 have e : lLt (pkey (x1, x2)) (pkey (y1, y2)) = if x1 = y1 then (if x2 = y2 then false else sLt x2 y2) else sLt x1 y1 := by
  rw [pkey, pkey, lLt_cons, lLt_cons]; rfl
 rw [e] at h
 refine kat_cons (wpAny_eqBool_str ?_)
 by_cases e1 : x1 = y1
 · rw [decide_eq_true e1]
   rw [if_pos e1] at h
   refine kat_yes (kat_cons (wpAny_eqBool_str ?_))
   by_cases e2 : x2 = y2
   · rw [decide_eq_true e2]
     rw [if_pos e2] at h
     exact kat_yes (kat_nil h)
   · rw [decide_eq_false e2]
     rw [if_neg e2] at h
     refine kat_no ?_
     exact kat_one _ _ (PyProof.Rows.lt_str h)
 · rw [decide_eq_false e1]
   rw [if_neg e1] at h
   refine kat_no ?_
   exact oneLt_str h
theorem sortTupS {vs : List Value} {ps : List (Str × Str)} {n : Nat} {P : PySem.Fin → Shared → Prop} (S : St B os G L m ((a, listOf vs.toArray n) :: news) s) (hp : Pairs news vs ps) (hnd : ps.Nodup) (h64 : ps.length < 64)
 (h : ∀ vs' n' s', Pairs news vs' (lsort pkey ps) → St B os G L m ((a, listOf vs'.toArray n') :: news) s' → P (.done (.ret .none)) s') : wpAny (model prog w) A (Builtin.«list.sort» ⟨[.ref a], []⟩) P E s := by
 obtain ⟨it, e1, e2, e3⟩ := hp.zip
 have inj : ∀ x y : Str × Str, pkey x = pkey y → x = y := fun ⟨x1, x2⟩ ⟨y1, y2⟩ e => by
  simp only [pkey, List.cons.injEq, and_true] at e
  rw [e.1, e.2]
 have hnd2 : (ps.map pkey).Nodup := by
  rw [List.nodup_iff_pairwise_ne, List.pairwise_map]
  exact (List.nodup_iff_pairwise_ne.mp hnd).imp fun {x y} hne e => hne (inj _ _ e)
 have m1 : (it.map fun x => ((x.1, pkey x.2) : Item)).map (·.1) = vs := by rw [List.map_map]; exact e1
 have m2 : (it.map fun x => ((x.1, pkey x.2) : Item)).map (·.2) = ps.map pkey := by rw [List.map_map, ← e2, List.map_map]; rfl
 have hl : it.length = ps.length := by simpa using congrArg List.length e2
 refine sortS (κ := tuples' true) (items := it.map fun x => ((x.1, pkey x.2) : Item)) (n := n) (news := news) (by rw [m1]; exact S) (by rw [m2]; exact hnd2) (by simpa [hl] using h64) (fun ee s' h2 S' Q hQ => ?_) (fun ee s' S' x hx y hy Q hQ => ?_) (fun n' s' S' => ?_)
 · rw [m1]
   refine kat_kind (fs := it.map fun x => (s'.heap.get? (match x.1 with | .ref a => a | _ => 0)).elim .none fun o => match o.data with | .seq xs _ => xs.getD 0 .none | _ => .none) (T := .type "str") ?_ (by simp at h2 ⊢; lia) (fun v hv => ?_) (by decide) hQ
   · rw [← e1]
     have : ∀ it' : List (Value × (Str × Str)), (∀ x ∈ it', x ∈ it) → KatTups s'.heap (it'.map (·.1)) (it'.map fun x => (s'.heap.get? (match x.1 with | .ref a => a | _ => 0)).elim .none fun o => match o.data with | .seq xs _ => xs.getD 0 .none | _ => .none) := by
      intro it'
      induction it' with
      | nil => intro _; exact KatTups.nil
      | cons x it' ih =>
       intro hx
       obtain ⟨a, t1, t2, e, hm⟩ := e3 x (hx x (.head _))
       have hg := S'.get (.tail _ hm)
       rw [List.map_cons, List.map_cons, e]
       refine KatTups.cons hg rfl rfl ?_ (ih fun y hy => hx y (.tail _ hy))
       simp only [hg]
       rfl
     exact this it fun _ h => h
   · obtain ⟨x, hx, rfl⟩ := List.mem_map.mp hv
     obtain ⟨a, t1, t2, e, hm⟩ := e3 x hx
     have hg := S'.get (.tail _ hm)
     rw [e]
     simp only [hg]
     exact Looks.now
 · obtain ⟨x, hx', rfl⟩ := List.mem_map.mp hx
   obtain ⟨y, hy', rfl⟩ := List.mem_map.mp hy
   obtain ⟨a, t1, t2, e, hm⟩ := e3 x hx'
   obtain ⟨b, u1, u2, e', hm'⟩ := e3 y hy'
   show wpAny _ _ (keyLt' (tuples' true) x.1 y.1) _ _ _
   rw [e, e']
   exact askTup (S'.get (.tail _ hm)) (S'.get (.tail _ hm')) hQ
 · have es : lsort ikey (it.map fun x => ((x.1, pkey x.2) : Item)) = (lsort (fun x : Value × (Str × Str) => pkey x.2) it).map fun x => ((x.1, pkey x.2) : Item) := by
    symm
    refine lsort_of ((lsort_perm it).map _) (List.pairwise_map.mpr (lsort_up (key := fun x : Value × (Str × Str) => pkey x.2) ?_))
    have : it.map (fun x : Value × (Str × Str) => pkey x.2) = ps.map pkey := by rw [← e2, List.map_map]; rfl
    rw [this]; exact hnd2
   rw [es, List.map_map] at S'
   have ep : (lsort (fun x : Value × (Str × Str) => pkey x.2) it).map (·.2) = lsort pkey ps := by
    refine lsort_of ?_ (List.pairwise_map.mpr (lsort_up (key := fun x : Value × (Str × Str) => pkey x.2) ?_))
    · rw [← e2]; exact (lsort_perm it).map _
    · have : it.map (fun x : Value × (Str × Str) => pkey x.2) = ps.map pkey := by rw [← e2, List.map_map]; rfl
      rw [this]; exact hnd2
   refine h _ n' s' ?_ S'
   rw [← ep]
   exact Pairs.of_zip fun x hx => e3 x ((lsort_perm it).subset hx)
end
noncomputable abbrev itvO (D : Addr) : Obj := { cls := .type "dict_items", data := .fields #[.ref D] }
noncomputable abbrev tkv (ps : List (Str × Str × Tok)) : Kvs := ps.map fun p => (p.1, Value.str p.2.1 p.2.2)
noncomputable abbrev tps (ps : List (Str × Str × Tok)) : List (Str × Str) := ps.map fun p => (p.1, p.2.1)
section
variable {prog : Program} {w : World} {A : Around} {E : Value → Shared → Prop} {s s' : Shared} {B : Heap} {os : OsState} {G : Array GenState} {L a D v : Addr} {m : Str → Option Value} {news : List Cell} {o od : Obj}
theorem addCells {h' : Heap} {tk : Nat} (S : St B os G L m news s) (hk : ∀ b o, s.heap.get? b = some o → h'.get? b = some o) {tc : List Cell} (hg : ∀ p ∈ tc, h'.get? p.1 = some p.2) (hr : (tc.map (·.1)).Pairwise (· < ·)) (hab : ∀ p ∈ tc, s.heap.objs.size ≤ p.1) : St B os G L m (tc ++ news) { s with heap := h', toks := tk } := by
 have S1 := S.ext (t := tk) hk
 have hL : L < s.heap.objs.size := S.F.ns.lt
 refine ⟨S1.F, fun p hp => ?_, ?_, S1.gens, S1.bare, S1.os⟩
 · rcases List.mem_append.mp hp with hp | hp
   · have := hab p hp
     exact ⟨hg p hp, fun e => by rw [e] at this; exact absurd hL (Nat.not_lt.mpr this), base_none (Nat.le_trans S.F.above (Nat.le_trans (Nat.le_of_lt hL) this))⟩
   · exact S1.N p hp
 · rw [List.map_append, List.nodup_append]
   refine ⟨hr.imp fun {x y} z => Nat.ne_of_lt z, S.nd, fun x hx y hy e => ?_⟩
   obtain ⟨p, hp, rfl⟩ := List.mem_map.mp hx
   obtain ⟨q, hq, rfl⟩ := List.mem_map.mp hy
   have h1 := hab p hp
   have h2 := S.lt hq
   rw [e] at h1
   exact absurd h2 (Nat.not_lt.mpr h1)
theorem kdx_cells {kvs : Kvs} : ∀ {as : List Addr} {ps : List (Str × Str × Tok)} {h : Heap}, as.length = ps.length → (∀ (j : Nat) (a : Addr), as[j]? = some a → ∃ key k x, (tkv ps)[j]? = some (k, x) ∧ (strKind prog w).is k key = true ∧ h.get? a = some { cls := .type "tuple", data := .seq #[key, x] }) →
 ∃ tc : List Cell, tc.map (·.1) = as ∧ (∀ p ∈ tc, h.get? p.1 = some p.2) ∧ Pairs tc (as.map Value.ref) (tps ps)
 | [], [], _, _, _ => ⟨[], rfl, (fun _ q => nomatch q), .nil⟩
 | [], _ :: _, _, hl, _ => by simp at hl
 | _ :: _, [], _, hl, _ => by simp at hl
 | a :: as, p :: ps, h, hl, hp => by
  obtain ⟨tc, e1, e2, e3⟩ := kdx_cells (kvs := kvs) (as := as) (ps := ps) (h := h) (by simpa using hl) (fun j b hb => by
   have := hp (j + 1) b (by simpa using hb)
   simpa using this)
  obtain ⟨key, k, x, h1, h2, h3⟩ := hp 0 a rfl
  simp only [tkv, List.map_cons, List.getElem?_cons_zero, Option.some.injEq, Prod.mk.injEq] at h1
  obtain ⟨rfl, rfl⟩ := h1
  obtain ⟨t, rfl⟩ := Value.isStrOf_shape h2
  refine ⟨(a, tupO #[.str p.1 t, .str p.2.1 p.2.2]) :: tc, by simp [e1], fun q hq => ?_, .cons (.head _) (e3.mono fun q hq => .tail _ hq)⟩
  rcases List.mem_cons.mp hq with rfl | hq
  · exact h3
  · exact e2 q hq
theorem sortedItemsS {ps : List (Str × Str × Tok)} {Q : Value → Shared → Prop} (hh : A.handled = none) (S : St B os G L m news s) (hv : (v, itvO D) ∈ news) (hD : (D, od) ∈ news) (hd : DicO prog w od (tkv ps)) (hz : ps.length < 60)
 (h : ∀ l tc vs n s', Pairs (tc ++ news) vs (lsort pkey (tps ps)) → St B os G L m ((l, listOf vs.toArray n) :: (tc ++ news)) s' → Q (.ref l) s') : wpAny (model prog w) A (call (.builtin "sorted") [.ref v]) Q E s := by
 obtain ⟨es, ep, hxd, hod, hk, hp, nd⟩ := hd
 refine Calls.call_function_entry kind_sorted plain_sorted entry_sorted (args_sorted1 _) ?_
 unfold Builtin.«sorted»
 refine wpAny_bind (m := checkCount "sorted" 1 1 _) (wpAny_pure ?_)
 refine wpAny_bind (kdx_collect (A := A.in1) (knd := strKind prog w) (kvs := tkv ps) (ep := ep) hh ⟨_, S.get hv, rfl, rfl⟩ (DicO.at (S.get hD) hxd hod hk hp nd) (by rw [PySem.sizeLine_eq]; simp; lia) (fun h' tk as hk' hl hG => ?_))
 have hl' : as.length = ps.length := by simpa using hl
 obtain ⟨tc, t1, t2, t3⟩ := kdx_cells (prog := prog) (w := w) (kvs := tkv ps) hl' hG.pairs
 have S1 : St B os G L m (tc ++ news) { s with heap := h', toks := tk } := addCells S hk' t2 (by rw [t1]; exact hG.rise) (fun p hp => Nat.le_of_lt (hG.above _ (by rw [← t1]; exact List.mem_map_of_mem hp)))
 refine wpAny_bind (listS S1 (fun l s S => ?_) (by rw [PySem.sizeLine_eq, List.length_map, hl']; lia))
 refine wpAny_bind (wpAny_holding (wpAny_call_entry slot_list_sort ⟨_, S.get (.head _), rfl⟩ entry_list_sort ?_ (args_list_sort _)))
 have hnd : (tps ps).Nodup := by
  have e : (tkv ps).map (·.1) = (tps ps).map (·.1) := by simp
  rw [e] at nd
  rw [List.nodup_iff_pairwise_ne, List.pairwise_map] at nd
  exact List.nodup_iff_pairwise_ne.mpr (nd.imp fun {x y} z e => z (by rw [e]))
 refine sortTupS (news := tc ++ news) S (t3.mono fun q hq => List.mem_append_left _ hq) hnd (by simp; lia) (fun vs' n' s' hp' S' => ?_)
 exact ⟨_, rfl, wpAny_pure ⟨_, rfl, h l tc vs' n' s' hp' S'⟩⟩
end
end Mine
end
section
open PySem PySem.W PySem.Calls PyProof.Rows
open PySem.Str (ofString)
namespace Mine
noncomputable abbrev Lvl := List (Str × Str)
structure Cfg where
 rw : Bool
 st : Bool
 xe : Bool
 qa : Bool
structure Ab where
 out : List Str
 data : List Str
 dec : List Lvl
 nss : List Lvl
 pmap : List (Str × Str)
 pres : List Bool
 seen : Bool
 done : Bool
 ign : Nat
structure Wn where
 x : Addr
 dx : Addr
 da : Addr
 st : Addr
 ns : Addr
 ps : Addr
 pm : Addr
 bm : Addr
 pl : Addr
 od : Obj
 opm : Obj
 data : List Value
 nd : Nat
 dec : List (Addr × Array Value × Nat)
 nst : Nat
 nsl : List (Addr × Array Value × Nat)
 nns : Nat
 psv : List Bool
 nps : Nat
 out : List Value
 npl : Nat
 tus : List Cell
 xs : List Cell
 exa : Value
 ext : Value
 fqa : Value
noncomputable abbrev lvC (l : List (Addr × Array Value × Nat)) : List Cell := l.map fun q => (q.1, listOf q.2.1 q.2.2)
noncomputable abbrev Wn.cells (C : Addr) (σ : Wn) : List Cell :=
 (σ.x, instO C σ.dx) :: (σ.dx, σ.od) :: (σ.da, listOf σ.data.toArray σ.nd) :: (σ.st, listOf (σ.dec.map fun q => Value.ref q.1).toArray σ.nst) :: (σ.ns, listOf (σ.nsl.map fun q => Value.ref q.1).toArray σ.nns) :: (σ.ps, listOf (σ.psv.map Value.bool).toArray σ.nps) ::
  (σ.pm, σ.opm) :: (σ.bm, bmO σ.pl) :: (σ.pl, listOf σ.out.toArray σ.npl) :: (lvC σ.dec ++ (lvC σ.nsl ++ (σ.tus ++ σ.xs)))
structure AmN (am : Str → Option Value) (σ : Wn) (c : Cfg) (seen done : Bool) (ign : Nat) : Prop where
 write : am (txt "_write") = some (.ref σ.bm)
 data : am (txt "_data") = some (.ref σ.da)
 sp : am (txt "_strip_text") = some (.bool c.st)
 exa : am (txt "_exclude_attrs") = some σ.exa
 ext : am (txt "_exclude_tags") = some σ.ext
 rew : am (txt "_rewrite_prefixes") = some (.bool c.rw)
 qat : am (txt "_qname_aware_tags") = some .none
 fqa : am (txt "_find_qname_aware_attrs") = some σ.fqa
 dst : am (txt "_declared_ns_stack") = some (.ref σ.st)
 nss : am (txt "_ns_stack") = some (.ref σ.ns)
 pma : am (txt "_prefix_map") = some (.ref σ.pm)
 psp : am (txt "_preserve_space") = some (.ref σ.ps)
 pend : am (txt "_pending_start") = some .none
 seen : am (txt "_root_seen") = some (.bool seen)
 done : am (txt "_root_done") = some (.bool done)
 ign : ∃ t, am (txt "_ignored_depth") = some (.int ign t)
 m1 : am (txt "_iter_namespaces") = none
 m2 : am (txt "_qname") = none
 m3 : am (txt "_flush") = none
 m4 : am (txt "_start") = none
 m5 : am (txt "start") = none
 m6 : am (txt "end") = none
 m7 : am (txt "data") = none
 m8 : am (txt "_resolve_prefix_name") = none
 m10 : am (txt "start_ns") = none
theorem AmN.putSeen {am : Str → Option Value} {σ : Wn} {c : Cfg} {seen seen' done : Bool} {ign : Nat} (a : AmN am σ c seen done ign) : AmN (updM am (txt "_root_seen") (.bool seen')) σ c seen' done ign := by
 obtain ⟨a1, a2, a4, a5, a6, a7, a8, a9, a10, a11, a11b, a12, a13, a14, a15, ⟨t, a16⟩, b1, b2, b3, b4, b5, b6, b7, b8, b10⟩ := a
 constructor <;> first | exact put_eq | (refine put_ne (by assumption) (by decide)) | (refine ⟨t, put_ne (by assumption) (by decide)⟩)
theorem AmN.putDone {am : Str → Option Value} {σ : Wn} {c : Cfg} {seen done done' : Bool} {ign : Nat} (a : AmN am σ c seen done ign) : AmN (updM am (txt "_root_done") (.bool done')) σ c seen done' ign := by
 obtain ⟨a1, a2, a4, a5, a6, a7, a8, a9, a10, a11, a11b, a12, a13, a14, a15, ⟨t, a16⟩, b1, b2, b3, b4, b5, b6, b7, b8, b10⟩ := a
 constructor <;> first | exact put_eq | (refine put_ne (by assumption) (by decide)) | (refine ⟨t, put_ne (by assumption) (by decide)⟩)
structure SameN (σ τ : Wn) : Prop where
 bm : τ.bm = σ.bm
 da : τ.da = σ.da
 st : τ.st = σ.st
 ns : τ.ns = σ.ns
 pm : τ.pm = σ.pm
 ps : τ.ps = σ.ps
 exa : τ.exa = σ.exa
 ext : τ.ext = σ.ext
 fqa : τ.fqa = σ.fqa
theorem AmN.same {am : Str → Option Value} {σ τ : Wn} {c : Cfg} {seen done : Bool} {ign : Nat} (a : AmN am σ c seen done ign) (h : SameN σ τ) : AmN am τ c seen done ign := by
 obtain ⟨a1, a2, a4, a5, a6, a7, a8, a9, a10, a11, a11b, a12, a13, a14, a15, a16, b1, b2, b3, b4, b5, b6, b7, b8, b10⟩ := a
 obtain ⟨e1, e2, e3, e4, e5, e6, e7, e8, e9⟩ := h
 exact ⟨by rw [e1]; exact a1, by rw [e2]; exact a2, a4, by rw [e7]; exact a5, by rw [e8]; exact a6, a7, a8, by rw [e9]; exact a9, by rw [e3]; exact a10, by rw [e4]; exact a11, by rw [e5]; exact a11b, by rw [e6]; exact a12, a13, a14, a15, a16, b1, b2, b3, b4, b5, b6, b7, b8, b10⟩
inductive Lvs (tus : List Cell) : List (Addr × Array Value × Nat) → List Lvl → Prop
 | nil : Lvs tus [] []
 | cons {q : Addr × Array Value × Nat} {ps : Lvl} {r : List (Addr × Array Value × Nat)} {lr : List Lvl} : Pairs tus q.2.1.toList ps → Lvs tus r lr → Lvs tus (q :: r) (ps :: lr)
theorem Lvs.mono {c c' : List Cell} (h : ∀ p ∈ c, p ∈ c') {l : List (Addr × Array Value × Nat)} {v : List Lvl} (hl : Lvs c l v) : Lvs c' l v := by
 induction hl with
 | nil => exact .nil
 | cons x _ ih => exact .cons (x.mono h) ih
theorem Lvs.length {c : List Cell} : ∀ {l : List (Addr × Array Value × Nat)} {v : List Lvl}, Lvs c l v → l.length = v.length
 | _, _, .nil => rfl
 | _, _, .cons _ r => by simp [r.length]
theorem Lvs.snoc {c : List Cell} {q : Addr × Array Value × Nat} {ps : Lvl} (x : Pairs c q.2.1.toList ps) : ∀ {l : List (Addr × Array Value × Nat)} {v : List Lvl}, Lvs c l v → Lvs c (l ++ [q]) (v ++ [ps])
 | _, _, .nil => .cons x .nil
 | _, _, .cons y r => .cons y (r.snoc x)
theorem Lvs.unsnoc {c : List Cell} {v : List Lvl} {ps : Lvl} : ∀ {l : List (Addr × Array Value × Nat)}, Lvs c l (v ++ [ps]) → ∃ l' q, l = l' ++ [q] ∧ Lvs c l' v ∧ Pairs c q.2.1.toList ps := by
 induction v with
 | nil =>
  intro l h
  have h : Lvs c l [ps] := h
  cases h with
  | cons x r =>
   cases r
   exact ⟨[], _, rfl, .nil, x⟩
 | cons u v ih =>
  intro l h
  have h : Lvs c l (u :: (v ++ [ps])) := h
  cases h with
  | cons x r =>
   obtain ⟨l', q, e, h1, h2⟩ := ih r
   exact ⟨_ :: l', q, by rw [e]; rfl, .cons x h1, h2⟩
noncomputable abbrev liOf (l : List (Addr × Array Value × Nat)) : List Lv := l.map fun q => (q.1, q.2.1)
noncomputable def outsA (v : List Lvl) : List (Str × Str) := v.reverse.flatten
theorem Pairs.app {c : List Cell} {xs ys : List Value} {ps qs : List (Str × Str)} (h1 : Pairs c xs ps) (h : Pairs c ys qs) : Pairs c (xs ++ ys) (ps ++ qs) := by
 induction h1 with
 | nil => exact h
 | cons x _ ih => exact .cons x ih
theorem Lvs.outs {c : List Cell} {l : List (Addr × Array Value × Nat)} {v : List Lvl} (h : Lvs c l v) : Pairs c (outs (liOf l)) (outsA v) := by
 induction h with
 | nil => exact .nil
 | @cons q ps l v x r ih =>
  have e1 : Mine.outs (liOf (q :: l)) = Mine.outs (liOf l) ++ q.2.1.toList := by simp [Mine.outs, liOf]
  have e2 : outsA (ps :: v) = outsA v ++ ps := by simp [outsA]
  rw [e1, e2]
  exact ih.app x
structure WIs (prog : Program) (w : World) (c : Cfg) (x pl : Addr) (b : Ab) (σ : Wn) : Prop where
 am : ∃ am, NsZ 20 σ.od am ∧ AmN am σ c b.seen b.done b.ign
 ax : σ.x = x
 apl : σ.pl = pl
 data : OutIs σ.data b.data
 out : OutIs σ.out b.out
 dec : Lvs σ.tus σ.dec b.dec
 nsl : Lvs σ.tus σ.nsl b.nss
 pmap : ∃ kvs : List (Str × Str × Tok), DicO prog w σ.opm (tkv kvs) ∧ tps kvs = b.pmap
 psv : σ.psv = b.pres
 pmn : (σ.pm == sysModules) = false
 exa : c.xe = false → σ.exa = .none
 ext : c.xe = false → σ.ext = .none
 fqa : c.qa = false → σ.fqa = .none
theorem WIs.amE {P : Prop} {prog : Program} {w : World} {c : Cfg} {x pl : Addr} {b : Ab} {σ : Wn} (h : WIs prog w c x pl b σ) (k : ∀ am, NsZ 20 σ.od am → AmN am σ c b.seen b.done b.ign → P) : P :=
 let ⟨am, h1, h2⟩ := h.am; k am h1 h2
section
variable {prog : Program} {w : World} {A : Around} {E : Value → Shared → Prop} {s s' : Shared} {B : Heap} {os : OsState} {G : Array GenState} {L : Addr} {m : Str → Option Value} {K : Frag}
variable {σ : Wn} {r : List Cell} {C x : Addr} {am : Str → Option Value} {name : Str} {v : Value}
theorem attrN {attr : Option Value} {expr : Bool} {Q : Value → Shared → Prop} (S : St B os G L m (σ.cells C ++ r) s) (X : K.In B) (e1 : σ.x = x) (ho : NsO σ.od am) (hg : plainGet K C name = true) (hh : hasDictIn K C = true) (ha : findIn K (.ref C) name = some attr) (hn : noGet K attr = true)
 (hv : am name = some v) (hv' : handedIn v = true) (h : ∀ s', St B os G L m (σ.cells C ++ r) s' → Q v s') : wpAny (model prog w) A (getAttr (.ref x) name expr) Q E s := by
 subst e1
 exact attrS S X (.head _) (.tail _ (.head _)) ho hg hh ha hn hv hv' h
theorem methN {f : Addr} {pl : Sem Bool} {Q : Value × List Value → Shared → Prop} (S : St B os G L m (σ.cells C ++ r) s) (X : K.In B) (e1 : σ.x = x) (ho : NsO σ.od am) (hg : plainGet K C name = true) (hf : findIn K (.ref C) name = some (some (.ref f))) (ht : isFn K (.ref f) = true)
 (hv : am name = none) (h : Q (.ref f, [.ref x]) s) : wpAny (model prog w) A (getMethod (.ref x) name pl) Q E s := by
 subst e1
 exact methS S X (.head _) (.tail _ (.head _)) ho hg hf ht hv h
theorem setN {v0 : Value} {Q : Unit → Shared → Prop} (S : St B os G L m (σ.cells C ++ r) s) (X : K.In B) (e1 : σ.x = x) (ho : NsZ 20 σ.od am) (h0 : am name = some v0)
 (hs : findIn K (.ref C) "__setattr__" = some (some (.builtin "object.__setattr__"))) (hp : plainOver K C = true) (ht : takerIn K C name = some none) (hh : hasDictIn K C = true)
 (h : ∀ od' s', NsZ 20 od' (updM am name v) → St B os G L m ({ σ with od := od' }.cells C ++ r) s' → Q () s') : wpAny (model prog w) A (setAttr (.ref x) name v) Q E s := by
 subst e1
 exact setK S X (.head _) (fun od' => .tail .head) ho (by decide) h0 hs hp ht hh h
theorem Wn.stkD (h : Lvs σ.tus σ.dec b) : StkL σ.st (liOf σ.dec) (σ.cells C) :=
 ⟨⟨σ.nst, by
  have e : (liOf σ.dec).map (fun p => Value.ref p.1) = σ.dec.map fun q => Value.ref q.1 := by simp [liOf]
  rw [e]
  exact .tail _ (.tail _ (.tail _ (.head _)))⟩, fun p hp => by
  obtain ⟨q, hq, rfl⟩ := List.mem_map.mp hp
  exact ⟨q.2.2, .tail _ (.tail _ (.tail _ (.tail _ (.tail _ (.tail _ (.tail _ (.tail _ (.tail _ (List.mem_append_left _ (List.mem_map.mpr ⟨q, hq, rfl⟩))))))))))⟩⟩
theorem Wn.stkN (h : Lvs σ.tus σ.nsl b) : StkL σ.ns (liOf σ.nsl) (σ.cells C) :=
 ⟨⟨σ.nns, by
  have e : (liOf σ.nsl).map (fun p => Value.ref p.1) = σ.nsl.map fun q => Value.ref q.1 := by simp [liOf]
  rw [e]
  exact .tail _ (.tail _ (.tail _ (.tail _ (.head _))))⟩, fun p hp => by
  obtain ⟨q, hq, rfl⟩ := List.mem_map.mp hp
  exact ⟨q.2.2, .tail _ (.tail _ (.tail _ (.tail _ (.tail _ (.tail _ (.tail _ (.tail _ (.tail _ (List.mem_append_right _ (List.mem_append_left _ (List.mem_map.mpr ⟨q, hq, rfl⟩)))))))))))⟩⟩
theorem Wn.tu {p : Cell} (h : p ∈ σ.tus) : p ∈ σ.cells C :=
 .tail _ (.tail _ (.tail _ (.tail _ (.tail _ (.tail _ (.tail _ (.tail _ (.tail _ (List.mem_append_right _ (List.mem_append_right _ (List.mem_append_left _ h)))))))))))
end
noncomputable def addLast : List Lvl → Str × Str → List Lvl
 | [], _ => []
 | [l], p => [l ++ [p]]
 | l :: r, p => l :: addLast r p
theorem addLast_snoc (p : Str × Str) (l : Lvl) : ∀ v : List Lvl, addLast (v ++ [l]) p = v ++ [l ++ [p]]
 | [] => rfl
 | [x] => rfl
 | x :: y :: r => by
  show x :: addLast (y :: r ++ [l]) p = _
  rw [addLast_snoc p l (y :: r)]
  rfl
section
variable {prog : Program} {w : World} {A : Around} {E : Value → Shared → Prop} {s s' : Shared} {B : Heap} {os : OsState} {G : Array GenState} {L : Addr} {m : Str → Option Value} {news r : List Cell} {σ : Wn} {C x pl : Addr} {c : Cfg} {b : Ab}
theorem Wn.upDec {init : List (Addr × Array Value × Nat)} {q : Addr × Array Value × Nat} (h : σ.dec = init ++ [q]) (its' : Array Value) (n' : Nat) :
 Up q.1 (listOf q.2.1 q.2.2) (listOf its' n') (σ.cells C) ({ σ with dec := init ++ [(q.1, its', n')] }.cells C) := by
 have e1 : lvC σ.dec = lvC init ++ [(q.1, listOf q.2.1 q.2.2)] := by rw [h]; simp [lvC]
 have e2 : lvC (init ++ [(q.1, its', n')]) = lvC init ++ [(q.1, listOf its' n')] := by simp [lvC]
 have e3 : (σ.dec.map fun q => Value.ref q.1) = ((init ++ [(q.1, its', n')]).map fun q => Value.ref q.1) := by rw [h]; simp
 unfold Wn.cells
 rw [e1, e2, e3]
 exact .tail (.tail (.tail (.tail (.tail (.tail (.tail (.tail (.tail ((Up.head.pre (lvC init)).app _)))))))))
theorem Wn.upNsl {init : List (Addr × Array Value × Nat)} {q : Addr × Array Value × Nat} (h : σ.nsl = init ++ [q]) (its' : Array Value) (n' : Nat) :
 Up q.1 (listOf q.2.1 q.2.2) (listOf its' n') (σ.cells C) ({ σ with nsl := init ++ [(q.1, its', n')] }.cells C) := by
 have e1 : lvC σ.nsl = lvC init ++ [(q.1, listOf q.2.1 q.2.2)] := by rw [h]; simp [lvC]
 have e2 : lvC (init ++ [(q.1, its', n')]) = lvC init ++ [(q.1, listOf its' n')] := by simp [lvC]
 have e3 : (σ.nsl.map fun q => Value.ref q.1) = ((init ++ [(q.1, its', n')]).map fun q => Value.ref q.1) := by rw [h]; simp
 unfold Wn.cells
 rw [e1, e2, e3]
 exact .tail (.tail (.tail (.tail (.tail (.tail (.tail (.tail (.tail (((Up.head.pre (lvC init)).app _).pre (lvC σ.dec))))))))))
theorem Wn.addTu (p : Cell) : (p :: (σ.cells C ++ r)).Perm ({ σ with tus := p :: σ.tus }.cells C ++ r) := by
 exact List.Perm.append_right r (l₁ := p :: σ.cells C) (permI [.inl _, .inl _, .inl _, .inl _, .inl _, .inl _, .inl _, .inl _, .inl _, .inl _, .inr _, .inr _] _ [0, 1, 2, 3, 4, 5, 6, 7, 8, 9, 10, 11] [1, 2, 3, 4, 5, 6, 7, 8, 9, 10, 11, 0] rfl)
theorem WIs.addDec {init : List (Addr × Array Value × Nat)} {q : Addr × Array Value × Nat} {ta : Addr} {u p : Str} {t1 t2 : Tok} {n' : Nat} {v : List Lvl} {l : Lvl} (h : WIs prog w c x pl b σ) (hd : σ.dec = init ++ [q]) (hb : b.dec = v ++ [l]) (h1 : Lvs σ.tus init v) (h2 : Pairs σ.tus q.2.1.toList l) :
 WIs prog w c x pl { b with dec := addLast b.dec (u, p) } { σ with dec := init ++ [(q.1, q.2.1.push (.ref ta), n')], tus := (ta, tupO #[.str u t1, .str p t2]) :: σ.tus } := by
 obtain ⟨⟨am, nz, a⟩, e1, e2, hda, hou, hde, hns, hpm, hps, hpn, x1, x2, x3⟩ := h
 refine ⟨⟨am, nz, a.same ⟨rfl, rfl, rfl, rfl, rfl, rfl, rfl, rfl, rfl⟩⟩, e1, e2, hda, hou, ?_, hns.mono fun p hp => .tail _ hp, hpm, hps, hpn, x1, x2, by first | exact x3 | exact ⟨x3.1, fun p hp => .tail _ (x3.2 p hp)⟩⟩
 show Lvs _ (init ++ [_]) (addLast b.dec (u, p))
 rw [hb, addLast_snoc]
 refine (h1.mono fun p hp => .tail _ hp).snoc ?_
 show Pairs _ (q.2.1.push (.ref ta)).toList (l ++ [(u, p)])
 rw [Array.toList_push]
 exact (h2.mono fun p hp => .tail _ hp).app (.cons (.head _) .nil)
theorem WIs.addNs {init : List (Addr × Array Value × Nat)} {q : Addr × Array Value × Nat} {ta : Addr} {u p : Str} {t1 t2 : Tok} {n' : Nat} {v : List Lvl} {l : Lvl} (h : WIs prog w c x pl b σ) (hd : σ.nsl = init ++ [q]) (hb : b.nss = v ++ [l]) (h1 : Lvs σ.tus init v) (h2 : Pairs σ.tus q.2.1.toList l) :
 WIs prog w c x pl { b with nss := addLast b.nss (u, p) } { σ with nsl := init ++ [(q.1, q.2.1.push (.ref ta), n')], tus := (ta, tupO #[.str u t1, .str p t2]) :: σ.tus } := by
 obtain ⟨⟨am, nz, a⟩, e1, e2, hda, hou, hde, hns, hpm, hps, hpn, x1, x2, x3⟩ := h
 refine ⟨⟨am, nz, a.same ⟨rfl, rfl, rfl, rfl, rfl, rfl, rfl, rfl, rfl⟩⟩, e1, e2, hda, hou, hde.mono fun p hp => .tail _ hp, ?_, hpm, hps, hpn, x1, x2, by first | exact x3 | exact ⟨x3.1, fun p hp => .tail _ (x3.2 p hp)⟩⟩
 show Lvs _ (init ++ [_]) (addLast b.nss (u, p))
 rw [hb, addLast_snoc]
 refine (h1.mono fun p hp => .tail _ hp).snoc ?_
 show Pairs _ (q.2.1.push (.ref ta)).toList (l ++ [(u, p)])
 rw [Array.toList_push]
 exact (h2.mono fun p hp => .tail _ hp).app (.cons (.head _) .nil)
theorem rsplit2S {x y : Str} {k : Int} {t u v : Tok} {Q : Value → Shared → Prop} (S : St B os G L m news s) (hy : (y.length == 0) = false) (hk : (decide (k < -(2 ^ 63 : Int)) || decide (k ≥ 2 ^ 63)) = false) (hx : x.length ≤ 1000)
 (h : ∀ l a s', l.map (·.1) = Txt.rsplitMax x y k → St B os G L m ((a, listOf (strValues l).toArray 0) :: news) s' → Q (.ref a) s') : wpAny (model prog w) A (call (.builtin "str.rsplit") [.str x t, .str y u, .int k v]) Q E s :=
 rsplitN2A S.F S.N hy hk (fun l h' tk e _ _ _ F N => h l _ _ e (S.cons (s' := { s with heap := h', toks := tk }) F N fun _ hp => S.lt hp)) (by rw [PySem.sizeLine_eq]; lia)
theorem unpackL2 {t : Addr} {v₁ v₂ : Value} {n : Nat} {x₁ x₂ : Str} {p₁ p₂ pos : Pos} {k : Nat} {name : Str} {scope : Scope} {f : Addr} {cd : Value} {Q : Unit → Shared → Prop} (S : St B os G L m news s) (hh : A.handled = none) (ht : (t, listOf #[v₁, v₂] n) ∈ news)
 (h : ∀ s', St B os G L (updM (updM m x₁ v₁) x₂ v₂) news s' → Q () s')
 (hk : scope.kind = .function := by rfl) (hl₁ : (envOf name scope L f cd).kindOf x₁ = some .local := by rfl) (hl₂ : (envOf name scope L f cd).kindOf x₂ = some .local := by rfl) :
 wpAny (model prog w) A (assign (.Tuple [.Name x₁ p₁, .Name x₂ p₂] k pos) (envOf name scope L f cd) (.ref t)) Q E s := by
 refine kun_list S.F S.N (listOf_isList (S.get ht)) hh rfl rfl (fun h' F' N' => ?_)
 have S₁ : St B os G L m news { s with heap := h' } := S.to F' N' rfl
 show wpAny _ _ (holding [v₂] (standAt p₁ >>= fun _ => bindName _ x₁ v₁) >>= fun _ => holding [] (standAt p₂ >>= fun _ => bindName _ x₂ v₂) >>= fun _ => pure ()) _ _ _
 refine wpAny_bind (wpAny_holding (wpAny_bind (wpAny_standAt (wpAny_bindName (stS S₁ (fun s₂ S₂ => ?_) hk hl₁)))))
 exact wpAny_bind (wpAny_holding (wpAny_bind (wpAny_standAt (wpAny_bindName (stS S₂ (fun s₃ S₃ => wpAny_pure (h _ S₃)) hk hl₂)))))
end
end Mine
end
section
open PySem PySem.W PySem.Calls PyProof.Rows PySem.Builtin.Str
open PySem.Str (ofString)
namespace Mine
noncomputable def tailS (x : Str) : Str := ⟨(x.cps.toList.drop 1).toArray⟩
theorem pick_from1 (x : Str) (u : Tok) : slicePicked x (some (1, u)) none none = (List.range (x.length - min 1 x.length)).map (fun k => min 1 x.length + k) := by
 show strSliceIndices (some 1) none 1 x.length = _
 generalize x.length = n
 cases n with
 | zero => decide
 | succ n =>
  have h : min 1 (n + 1) = 1 := by lia
  rw [h]
  unfold strSliceIndices
  have e : (max 0 (min (1 : Int) ((n + 1 : Nat) : Int))) = 1 := by lia
  simp only [show ¬ ((1 : Int) < 0) by decide, if_false, show (1 : Int) > 0 by decide, if_true, e]
  exact sliceRange_one 1 (n + 1)
section
variable {prog : Program} {w : World} {A : Around} {E : Value → Shared → Prop} {s s' : Shared} {B : Heap} {os : OsState} {G : Array GenState} {L : Addr} {m : Str → Option Value} {news : List Cell}
theorem from1 {x v : Str} {t₀ : Tok} {p1 p2 p3 p4 : Pos} {k1 : Nat} {name : Str} {scope : Scope} {f : Addr} {cd : Value} {Q : Value → Shared → Prop} (S : St B os G L m news s) (hm : m x = some (.str v t₀)) (hsz : v.length ≤ sizeLine)
 (h : ∀ t' s', St B os G L m news s' → Q (.str (tailS v) t') s')
 (hk : scope.kind = .function := by rfl) (hl : (envOf name scope L f cd).kindOf x = some .local := by rfl) (hd : (x == ("__debug__" : Str)) = false := by decide) :
 wpAny (model prog w) A (eval (.Subscript (.Name x p1) (.Slice (some (.Constant (.int 1) k1 p2)) none none p3) p4) (envOf name scope L f cd)) Q E s := by
 refine wpAny_Subscript_str_slice (ld S.F hm ?_ hk hl hd)
 rw [evalPart_some]
 refine wpAny_Constant_int ?_
 rw [evalPart_none]
 refine wpAny_pure ?_
 refine ⟨v, t₀, some (1, _), none, rfl, rfl, rfl, ?_⟩
 refine slice_post (pick_from1 v _) (Nat.min_le_right _ _) (Nat.le_refl _) hsz (fun y t' tk hy => ?_)
 have e : y = tailS v := by
  refine Str.ext' (Array.toList_inj.mp ?_)
  rw [hy]
  show _ = v.cps.toList.drop 1
  have hl : v.length = v.cps.toList.length := by simp [Str.length]
  rw [hl]
  cases v.cps.toList with
  | nil => rfl
  | cons c r => simp
 rw [e]
 exact h _ _ (S.ext fun b o q => Heap.get?_push_of_some _ q)
end
end Mine
end
section
open PySem PySem.W PySem.Calls PyProof.Rows
open PySem.Str (ofString)
namespace Mine
noncomputable def colon (p t : Str) : Str := Str.empty ++ p ++ txt ":" ++ t
theorem len_app (a b : Str) : (a ++ b).length = a.length + b.length := by
 show (a.cps ++ b.cps).size = _
 rw [Array.size_append]; rfl
theorem colon_len (p t : Str) : (colon p t).length = p.length + t.length + 1 := by
 have z0 : Str.empty.length = 0 := by decide
 have z1 : (txt ":").length = 1 := by decide
 unfold colon
 rw [len_app, len_app, len_app, z0, z1]; lia
section
variable {prog : Program} {w : World} {A : Around} {E : Value → Shared → Prop} {s s' : Shared} {B : Heap} {os : OsState} {G : Array GenState} {L : Addr} {m : Str → Option Value} {news : List Cell} {name : Str} {scope : Scope} {f : Addr} {cd : Value}
theorem colonS {pv tg : Str} {tp tt : Tok} {q1 q2 q3 q4 q5 q6 : Pos} {k : Nat} {Q : Value → Shared → Prop} (S : St B os G L m news s) (hp : m (txt "prefix") = some (.str pv tp)) (ht : m (txt "tag") = some (.str tg tt)) (h1 : pv.length ≤ 1000) (h2 : tg.length ≤ 1000)
 (h : ∀ t s', St B os G L m news s' → Q (.str (colon pv tg) t) s') (hk : scope.kind = .function) (l1 : (envOf name scope L f cd).kindOf (txt "prefix") = some .local) (l2 : (envOf name scope L f cd).kindOf (txt "tag") = some .local) :
 wpAny (model prog w) A (eval (.JoinedStr [.FormattedValue (.Name (txt "prefix") q1) (-1) none q2, .Constant (.str (txt ":")) k q3, .FormattedValue (.Name (txt "tag") q4) (-1) none q5] q6) (envOf name scope L f cd)) Q E s := by
 have z0 : Str.empty.length = 0 := by decide
 have z1 : (txt ":").length = 1 := by decide
 refine JoinedStr_many (joinParts_cons (FormattedValue_plain (ld S.F hp ?_ hk l1)))
 refine formatField_str (fun t5 tk => ⟨by rw [PySem.sizeLine_eq, len_app]; lia, joinParts_cons (wpAny_Constant_str ⟨by rw [PySem.sizeLine_eq, len_app, len_app]; lia, joinParts_cons (FormattedValue_plain ?_)⟩)⟩) (by rw [PySem.sizeLine_eq]; lia)
 have S := S.tk (t := tk + 1)
 refine ld S.F ht ?_ hk l2
 refine formatField_str (fun t5 tk => ⟨by rw [PySem.sizeLine_eq, len_app, len_app, len_app]; lia, joinParts_nil ?_ (by rw [PySem.sizeLine_eq, len_app, len_app, len_app]; lia)⟩) (by rw [PySem.sizeLine_eq]; lia)
 exact h _ _ S.tk
theorem str_len0' {x : Str} : x.length = 0 ↔ x = Str.empty := ⟨fun h => Str.ext' (by
 have : x.cps.size = 0 := h
 rw [Array.size_eq_zero_iff.mp this]; rfl), fun h => by rw [h]; decide⟩
theorem tup3S {pv tg ur : Str} {tp tt tu : Tok} {q0 q1 q2 q3 q4 q5 q6 q7 q8 q9 q10 q11 : Pos} {k k2 : Nat} {Q : Value → Shared → Prop} (S : St B os G L m news s) (hp : m (txt "prefix") = some (.str pv tp)) (ht : m (txt "tag") = some (.str tg tt)) (hu : m (txt "uri") = some (.str ur tu)) (h1 : pv.length ≤ 1000) (h2 : tg.length ≤ 1000) (hne : pv ≠ Str.empty)
 (h : ∀ a t s', St B os G L m ((a, tupO #[.str (colon pv tg) t, .str tg tt, .str ur tu]) :: news) s' → Q (.ref a) s') (hk : scope.kind = .function) (l1 : (envOf name scope L f cd).kindOf (txt "prefix") = some .local) (l2 : (envOf name scope L f cd).kindOf (txt "tag") = some .local) (l3 : (envOf name scope L f cd).kindOf (txt "uri") = some .local)
 (hst : starEach [Expr.IfExp (.Name (txt "prefix") q0) (.JoinedStr [.FormattedValue (.Name (txt "prefix") q1) (-1) none q2, .Constant (.str (txt ":")) k q3, .FormattedValue (.Name (txt "tag") q4) (-1) none q5] q6) (.Name (txt "tag") q7) q8, .Name (txt "tag") q9, .Name (txt "uri") q10] (envOf name scope L f cd) =
  [(false, eval (Expr.IfExp (.Name (txt "prefix") q0) (.JoinedStr [.FormattedValue (.Name (txt "prefix") q1) (-1) none q2, .Constant (.str (txt ":")) k q3, .FormattedValue (.Name (txt "tag") q4) (-1) none q5] q6) (.Name (txt "tag") q7) q8) (envOf name scope L f cd)), (false, eval (.Name (txt "tag") q9) (envOf name scope L f cd)), (false, eval (.Name (txt "uri") q10) (envOf name scope L f cd))] := by rfl) :
 wpAny (model prog w) A (eval (.Tuple [.IfExp (.Name (txt "prefix") q0) (.JoinedStr [.FormattedValue (.Name (txt "prefix") q1) (-1) none q2, .Constant (.str (txt ":")) k q3, .FormattedValue (.Name (txt "tag") q4) (-1) none q5] q6) (.Name (txt "tag") q7) q8, .Name (txt "tag") q9, .Name (txt "uri") q10] k2 q11) (envOf name scope L f cd)) Q E s := by
 refine Tuple_ (spliced_more (wpAny_IfExp (wpAny_isTrue_value (ld S.F hp ?_ hk l1))) rfl)
 refine PySem.P.truthy_str (by lia) ?_
 have S := S.tk (t := s.toks + 1 + 1)
 rw [if_pos (by
  have : pv.length ≠ 0 := fun e => hne (str_len0'.mp e)
  simpa using this)]
 refine colonS S hp ht h1 h2 (fun t s S => ?_) hk l1 l2
 refine spliced_more (ld S.F ht ?_ hk l2) rfl
 refine spliced_more (ld S.F hu ?_ hk l3) rfl
 exact spliced_none (tupS S (fun a s S => h a t s S))
end
theorem valP {uri : Str} : ∀ {kvs : List (Str × Str × Tok)}, (∃ p t, firstP uri (tps kvs) = some p ∧ valueAt (tkv kvs) uri = some (.str p t)) ∨ (firstP uri (tps kvs) = none ∧ valueAt (tkv kvs) uri = none)
 | [] => .inr ⟨rfl, rfl⟩
 | (u, p, t) :: r => by
  by_cases h : u = uri
  · refine .inl ⟨p, t, ?_, ?_⟩
    · show (if u = uri then some p else _) = _
      rw [if_pos h]
    · simp [valueAt, tkv, h]
  · have e1 : firstP uri (tps ((u, p, t) :: r)) = firstP uri (tps r) := by
     show (if u = uri then some p else firstP uri (tps r)) = _
     rw [if_neg h]
    have e2 : valueAt (tkv ((u, p, t) :: r)) uri = valueAt (tkv r) uri := by
     simp [valueAt, tkv, h]
    rw [e1, e2]
    exact valP
theorem stored_new {kvs : Kvs} {k : Str} {v : Value} (h : valueAt kvs k = none) : stored kvs k v = kvs ++ [(k, v)] := by
 unfold stored
 rw [if_neg]
 intro q
 obtain ⟨kv, hkv, e⟩ := List.any_eq_true.mp q
 have : (kvs.find? fun kv => kv.1 = k) ≠ none := fun z => by
  have := List.find?_eq_none.mp z kv hkv
  simp at e this
  exact this e
 unfold valueAt at h
 cases q2 : kvs.find? (fun kv => decide (kv.1 = k)) with
 | none => exact this q2
 | some y => rw [q2] at h; cases h
section
variable {prog : Program} {w : World} {A : Around} {E : Value → Shared → Prop} {s s' : Shared} {B : Heap} {os : OsState} {G : Array GenState} {L D : Addr} {m : Str → Option Value} {news : List Cell} {o : Obj} {env : Env}
theorem inD {kvs : Kvs} {k : Str} {t : Tok} {Q : Value → Shared → Prop} (S : St B os G L m news s) (hD : (D, o) ∈ news) (hd : DicO prog w o kvs) (hm : (D == sysModules) = false) (h : ∀ s', St B os G L m news s' → Q (.bool (valueAt kvs k).isSome) s') : wpAny (model prog w) A (compareOp .In (.str k t) (.ref D)) Q E s :=
 wpAny_in_of (isStrOf_str k t prog w) hm (Heap.dictOf_iff.mpr ⟨o, S.get hD, hd⟩).mapOf (h _ S.tk)
theorem lenD {kvs : Kvs} {Q : Value → Shared → Prop} (S : St B os G L m news s) (hD : (D, o) ∈ news) (hd : DicO prog w o kvs) (hm : (D == sysModules) = false) (hz : kvs.length < 1000) (h : ∀ t s', St B os G L m news s' → Q (.int kvs.length t) s') : wpAny (model prog w) A (call (.builtin "len") [.ref D]) Q E s :=
 call_len_dict hm (Heap.dictOf_iff.mpr ⟨o, S.get hD, hd⟩) (by lia) (h _ _ S.tk)
theorem truthyD {kvs : Kvs} {Q : Bool → Shared → Prop} (S : St B os G L m news s) (hD : (D, o) ∈ news) (hd : DicO prog w o kvs) (hm : (D == sysModules) = false) (hz : kvs.length < 1000) (h : ∀ s', St B os G L m news s' → Q (!kvs.isEmpty) s') : wpAny (model prog w) A (truthy (.ref D)) Q E s :=
 wpAny_truthy_dict hm (Heap.dictOf_iff.mpr ⟨o, S.get hD, hd⟩) (by lia) (h _ S.tk)
theorem setItemD {kvs : Kvs} {k : Str} {t : Tok} {v : Value} {news' : Obj → List Cell} {Q : Unit → Shared → Prop} (S : St B os G L m news s) (U : ∀ o', Up D o o' news (news' o')) (hd : DicO prog w o kvs) (hz : kvs.length < 1000)
 (h : ∀ o' s', DicO prog w o' (stored kvs k v) → St B os G L m (news' o') s' → Q () s') : wpAny (model prog w) A (setItem (.ref D) (.str k t) v) Q E s := by
 refine wpAny_setItem_pairs (isStrOf_str k t prog w) (Heap.dictOf_iff.mpr ⟨o, S.get (U o).mem, hd⟩) (fun h' hd' hs => ?_) (by rw [PySem.sizeLine_eq]; lia)
 obtain ⟨o', e, hd''⟩ := Heap.dictOf_iff.mp hd'
 exact h o' _ hd'' (S.same (U o') hs e)
theorem dictItemA {kvs : Kvs} {k : Str} {t : Tok} {v : Value} {value slice : PySem.Expr} {Q : Value → Shared → Prop} (S : St B os G L m news s) (hD : (D, o) ∈ news) (hd : DicO prog w o kvs) (hv : valueAt kvs k = some v) (h : ∀ s', St B os G L m news s' → Q v s')
 (hs : subscripted slice false (.ref D) (.str k t) = operate [.ref D, .str k t] (getItem (.ref D) (.str k t)) := by with_unfolding_all rfl) : wpAny (model prog w) A (subscriptTail value slice (.ref D) (.str k t)) Q E s :=
 subscriptTail_builtinR (T := "dict") ⟨_, S.get hD, (let ⟨_, _, hx, _⟩ := hd; hx.1)⟩ slot_dict_getitem.lookup (wpAny_getItem_of (Q := fun r s' => r = v ∧ Q r s') (isStrOf_str k t prog w) (Heap.dictOf_iff.mpr ⟨o, S.get hD, hd⟩).mapOf hv ⟨rfl, h _ S.tk⟩) hs
theorem assignSub {o i : PySem.Expr} {pos : Pos} {v : Value} {Q : Unit → Shared → Prop}
 (h : wpAny (model prog w) A (eval o env) (fun ov s₁ => wpAny (model prog w) A (eval i env) (fun iv s₂ => wpAny (model prog w) A (setItem ov iv v) Q E s₂) E s₁) E s) : wpAny (model prog w) A (assign (.Subscript o i pos) env v) Q E s := by
 rw [assign_Subscript]
 refine wpAny_bind (wpAny_holding (wpAny_mono h (fun ov s₁ h₁ => ?_) fun _ _ z => z))
 refine wpAny_bind (wpAny_holding (wpAny_mono h₁ (fun iv s₂ h₂ => ?_) fun _ _ z => z))
 refine wpAny_bind (wpAny_standAt (wpAny_bind (wpAny_holding (wpAny_mono h₂ (fun u s₃ h₃ => ?_) fun _ _ z => z))))
 exact wpAny_release h₃
end
noncomputable abbrev progN : Program := PySem.Challenge.rw_dr0139_02.row.prog
end Mine
end
section
open PySem PySem.W PySem.Calls PyProof.Rows PySem.Spec
open PySem.Str (ofString)
namespace Mine
section
variable {prog : Program} {w : World} {A : Around} {E : Value → Shared → Prop} {s s' : Shared} {B : Heap} {os : OsState} {G : Array GenState} {L C a P : Addr} {m mC : Str → Option Value} {news news' : List Cell} {oL : Obj} {env : Env} {Q : Value → Shared → Prop}
inductive JLC (B : Heap) (os : OsState) (C L : Addr) (oL : Obj) (it acc l : Addr) (vs : List Value) (J : List Value → Array GenState → List Cell → List Value → Prop) (k : Nat) (s : Shared) : Prop
 | mk {pre rem out na oit mC G news} (hvs : vs = pre ++ rem) (hk : k = rem.length) (hit : LI oit l pre.length) (hJ : J rem G news out) (S : St B os G C mC ((it, oit) :: (acc, listOf out.toArray na) :: (L, oL) :: news) s) : JLC B os C L oL it acc l vs J k s
theorem JLC.elim {P : Prop} {it acc l : Addr} {vs : List Value} {J : List Value → Array GenState → List Cell → List Value → Prop} {k : Nat} (h : JLC B os C L oL it acc l vs J k s)
 (f : ∀ pre rem out na oit mC G news, vs = pre ++ rem → k = rem.length → LI oit l pre.length → J rem G news out → St B os G C mC ((it, oit) :: (acc, listOf out.toArray na) :: (L, oL) :: news) s → P) : P := by
 cases h with
 | mk a1 a2 a3 a4 a5 => exact f _ _ _ _ _ _ _ _ a1 a2 a3 a4 a5
theorem loopP {elt iter : PySem.Expr} {x1 x2 : Str} {p1 p2 p3 pos : Pos} {kt : Nat} {scope : Scope} {cl : List (Str × Addr)} {R : Result → Shared → Prop} {l it acc : Addr} {oit : Obj} {vs : List Value} {n : Nat} {G₁ : Array GenState} {news₁ : List Cell} (hh : A.handled = none)
 (hkind : scope.kind = .function) (hx1 : scope.names.lookup x1 = some .local) (hx2 : scope.names.lookup x2 = some .local) (hne : x1 ≠ x2)
 (J : List Value → Array GenState → List Cell → List Value → Prop) (hJ : ∀ rem G news out, J rem G news out → out.length < 1000)
 (hJt : ∀ v rem G news out, J (v :: rem) G news out → ∃ a u p t1 t2, v = .ref a ∧ (a, tupO #[.str u t1, .str p t2]) ∈ news) (hJ0 : J vs G₁ news₁ []) (hJl : ∀ rem G news out, J rem G news out → (l, listOf vs.toArray n) ∈ news)
 (turn : ∀ v rem out a u p t1 t2 acc na C oL it oit mC G news s₃ E', J (v :: rem) G news out → v = .ref a → (a, tupO #[.str u t1, .str p t2]) ∈ news → FrC B L oL m → mC x1 = some (.str u t1) → mC x2 = some (.str p t2) → St B os G C mC ((it, oit) :: (acc, listOf out.toArray na) :: (L, oL) :: news) s₃ →
  wpAny (model prog w) A (eval elt (compEnvC scope cl C env)) (fun y s₅ => ∃ G' news', J rem G' news' (out ++ [y]) ∧ St B os G' C mC ((it, oit) :: (acc, listOf out.toArray na) :: (L, oL) :: news') s₅) E' s₃)
 (fin : ∀ G news out na mC s, J [] G news out → St B os G C mC ((acc, listOf out.toArray na) :: (L, oL) :: news) s → R (.ok .next) s) (f : FrC B L oL m) (hit : LI oit l 0)
 (S : St B os G₁ C (fun _ => none) ((it, oit) :: (acc, listOf [].toArray 0) :: (L, oL) :: news₁) s) : codeAny (model prog w) A (.compLoop (.ListComp elt [⟨.Tuple [.Name x1 p1, .Name x2 p2] kt p3, iter, [], 0⟩] scope pos) 0 (.ref it) (.ref acc) (compEnvC scope cl C env)) R s := by
 refine kcp_loop (JLC B os C L oL it acc l vs J) ?_ vs.length (.mk (pre := []) rfl rfl hit hJ0 S)
 intro k s hI
 refine wabs (fun Q1 E1 hQ1 => ?_)
 refine hI.elim (fun pre rem out na oit mC G news hvs ek hit hJ1 S => ?_)
 clear hI
 have hsrc := hJl _ _ _ _ hJ1
 cases rem with
 | nil => exact endL hh S (.tail _ (.tail _ hsrc)) hit (by rw [hvs]; simp) (fun s S => hQ1 _ _ (fin _ _ _ _ _ _ hJ1 S))
 | cons v rem =>
  refine nextL S (.tail _ (.tail _ (.tail _ hsrc))) (fun o' => .head) hit (x := v) (by rw [hvs]; simp) (fun oit' s hit' S => hQ1 _ _ ?_)
  obtain ⟨ta, u, p, t1, t2, ev, hta⟩ := hJt _ _ _ _ _ hJ1
  rw [ev] at hJ1 ⊢
  refine wpAny_letOwnedTupleGo_listiter ⟨_, S.get (.head _), hit'.1, hit'.2⟩ ?_
  refine wpAny_assign_Tuple hh (tup_is (S.get (.tail _ (.tail _ (.tail _ hta))))) rfl rfl (fun h' hx => ?_)
  have S₁ := S.extB (t := s.toks) hx
  show wpAny _ _ (holding [.str p t2] (standAt p1 >>= fun _ => bindName _ x1 (.str u t1)) >>= fun _ => holding [] (standAt p2 >>= fun _ => bindName _ x2 (.str p t2)) >>= fun _ => pure ()) _ _ _
  refine wpAny_bind (wpAny_holding (wpAny_bind (wpAny_standAt (wpAny_bindName (St.compPut S₁ hkind hx1 (fun s₂ S₂ => ?_))))))
  refine wpAny_bind (wpAny_holding (wpAny_bind (wpAny_standAt (wpAny_bindName (St.compPut S₂ hkind hx2 (fun s₃ S₃ => wpAny_pure ?_))))))
  refine wpAny_mono (turn _ rem out ta u p t1 t2 acc na C oL it oit' _ G news _ _ hJ1 rfl hta f ((updM_ne hne).trans (if_pos rfl)) (if_pos rfl) S₃) (fun y s₅ h₅ => ?_) fun _ _ z => z
  obtain ⟨G', news', hJ', S⟩ := h₅
  refine appendL S (.tail .head) (fun s S => ?_) (by have := hJ _ _ _ _ hJ1; lia)
  exact ⟨rem.length, by rw [ek]; exact Nat.lt_succ_self _, .mk (pre := pre ++ [v]) (by rw [hvs]; simp) rfl (by rw [List.length_append]; exact hit') hJ' S⟩
theorem compP {elt iter : PySem.Expr} {x1 x2 : Str} {p1 p2 p3 pos : Pos} {kt : Nat} {scope cs : Scope} {cl cl0 : List (Str × Addr)} {cn : Str} {ccd : Value} {a0 : Addr} (hh : A.handled = none)
 (hclos : closureFor scope (envX cn cs L a0 ccd cl0) = pure cl) (hcell : ∀ z ∈ scope.names, z.2 ≠ .cell) (hkind : scope.kind = .function)
 (hnames : ∀ z ∈ scope.names, z.2 = .local → scope.names.lookup z.1 = some .local) (hx1 : scope.names.lookup x1 = some .local) (hx2 : scope.names.lookup x2 = some .local) (hne : x1 ≠ x2)
 (hs : ∀ x, foldedSetIterable iter (envX cn cs L a0 ccd cl0) x = pure x)
 (J : List Value → Array GenState → List Cell → List Value → Prop) (hJ : ∀ rem G news out, J rem G news out → out.length < 1000)
 (hJt : ∀ v rem G news out, J (v :: rem) G news out → ∃ a u p t1 t2, v = .ref a ∧ (a, tupO #[.str u t1, .str p t2]) ∈ news)
 (h : wpAny (model prog w) A (eval iter (envX cn cs L a0 ccd cl0)) (fun v s₁ => ∃ (l : Addr) (vs : List Value) (n : Nat) (G₁ : Array GenState) (news₁ : List Cell), v = .ref l ∧ J vs G₁ news₁ [] ∧ St B os G₁ L m news₁ s₁ ∧ (∀ rem G news out, J rem G news out → (l, listOf vs.toArray n) ∈ news) ∧
  (∀ v rem out a u p t1 t2 acc na C oL it oit mC G news s₃ E', J (v :: rem) G news out → v = .ref a → (a, tupO #[.str u t1, .str p t2]) ∈ news → FrC B L oL m → mC x1 = some (.str u t1) → mC x2 = some (.str p t2) → St B os G C mC ((it, oit) :: (acc, listOf out.toArray na) :: (L, oL) :: news) s₃ →
   wpAny (model prog w) A (eval elt (compEnvC scope cl C (envX cn cs L a0 ccd cl0))) (fun y s₅ => ∃ G' news', J rem G' news' (out ++ [y]) ∧ St B os G' C mC ((it, oit) :: (acc, listOf out.toArray na) :: (L, oL) :: news') s₅) E' s₃) ∧
  (∀ G news out acc na s₃, J [] G news out → St B os G L m ((acc, listOf out.toArray na) :: news) s₃ → Q (.ref acc) s₃)) E s) :
 wpAny (model prog w) A (eval (.ListComp elt [⟨.Tuple [.Name x1 p1, .Name x2 p2] kt p3, iter, [], 0⟩] scope pos) (envX cn cs L a0 ccd cl0)) Q E s := by
 rw [eval_ListComp]
 refine wpAny_comprehension_free (use := none) rfl hs hclos hkind hnames (wpAny_mono h (fun xv s₁ h₁ => ?_) fun _ _ e => e)
 obtain ⟨l, vs, n, G₁, news₁, rfl, hJ0, S, hJl, turn, fin⟩ := h₁
 refine iterL S (hJl _ _ _ _ hJ0) (fun it oit s hit S => ?_)
 refine listS S (fun acc s S => ?_)
 refine comp_enter (R := fun C => compPost (model prog w) A E none Q _ C) S hcell hkind (fun C oL s f S => ?_)
 have S : St B os G₁ C (fun _ => none) ((it, oit) :: (acc, listOf [].toArray 0) :: (L, oL) :: news₁) s := S.perm ((List.Perm.cons _ (List.Perm.swap ..)).trans ((List.Perm.swap ..).trans (List.Perm.cons _ (List.Perm.swap ..))))
 have loop := loopP (p1 := p1) (p2 := p2) (p3 := p3) (pos := pos) (kt := kt) (iter := iter) (cl := cl) (R := compPost (model prog w) A E none Q (.ref acc) C) hh hkind hx1 hx2 hne J hJ hJt hJ0 hJl turn (fun G news out na mC s hJ1 S => comp_none (S.perm (List.Perm.swap ..)) f (fun s S => fin _ _ _ _ _ _ hJ1 S)) f hit S
 exact codeAny_compStart_list loop (selfL S (.head _) hit loop)
theorem compPA {elt iter : PySem.Expr} {x1 x2 y0 : Str} {p1 p2 p3 pos py spos : Pos} {kt : Nat} {scope cs : Scope} {cl cl0 : List (Str × Addr)} {cn : Str} {ccd : Value} {a0 : Addr} {Q : Flow → Shared → Prop} (hh : A.handled = none)
 (hsw : swapsWith (.ListComp elt [⟨.Tuple [.Name x1 p1, .Name x2 p2] kt p3, iter, [], 0⟩] scope pos) (some (.Name y0 py)) spos.line (envX cn cs L a0 ccd cl0) = pure true) (hy : (envX cn cs L a0 ccd cl0).kindOf y0 = some .local) (hck : cs.kind = .function)
 (hclos : closureFor scope (envX cn cs L a0 ccd cl0) = pure cl) (hcell : ∀ z ∈ scope.names, z.2 ≠ .cell) (hkind : scope.kind = .function)
 (hnames : ∀ z ∈ scope.names, z.2 = .local → scope.names.lookup z.1 = some .local) (hx1 : scope.names.lookup x1 = some .local) (hx2 : scope.names.lookup x2 = some .local) (hne : x1 ≠ x2)
 (hs : ∀ x, foldedSetIterable iter (envX cn cs L a0 ccd cl0) x = pure x)
 (J : List Value → Array GenState → List Cell → List Value → Prop) (hJ : ∀ rem G news out, J rem G news out → out.length < 1000)
 (hJt : ∀ v rem G news out, J (v :: rem) G news out → ∃ a u p t1 t2, v = .ref a ∧ (a, tupO #[.str u t1, .str p t2]) ∈ news)
 (h : wpAny (model prog w) A (eval iter (envX cn cs L a0 ccd cl0)) (fun v s₁ => ∃ (l : Addr) (vs : List Value) (n : Nat) (G₁ : Array GenState) (news₁ : List Cell), v = .ref l ∧ J vs G₁ news₁ [] ∧ St B os G₁ L m news₁ s₁ ∧ (∀ rem G news out, J rem G news out → (l, listOf vs.toArray n) ∈ news) ∧
  (∀ v rem out a u p t1 t2 acc na C oL it oit mC G news s₃ E', J (v :: rem) G news out → v = .ref a → (a, tupO #[.str u t1, .str p t2]) ∈ news → FrC B L oL m → mC x1 = some (.str u t1) → mC x2 = some (.str p t2) → St B os G C mC ((it, oit) :: (acc, listOf out.toArray na) :: (L, oL) :: news) s₃ →
   wpAny (model prog w) A (eval elt (compEnvC scope cl C (envX cn cs L a0 ccd cl0))) (fun y s₅ => ∃ G' news', J rem G' news' (out ++ [y]) ∧ St B os G' C mC ((it, oit) :: (acc, listOf out.toArray na) :: (L, oL) :: news') s₅) E' s₃) ∧
  (∀ G news out acc na s₃, J [] G news out → St B os G L (updM m y0 (.ref acc)) ((acc, listOf out.toArray na) :: news) s₃ → Q .next s₃)) E s) :
 wpAny (model prog w) A (exec (.Assign [.Name y0 py] (.ListComp elt [⟨.Tuple [.Name x1 p1, .Name x2 p2] kt p3, iter, [], 0⟩] scope pos) spos) (envX cn cs L a0 ccd cl0)) Q E s := by
 rw [exec_Assign_Name_used _ _ _ _ hsw]
 refine wpAny_bind (wpAny_standAt (wpAny_bind ?_))
 show wpAny _ A (do let _ ← comprehension (.ListComp elt [⟨.Tuple [.Name x1 p1, .Name x2 p2] kt p3, iter, [], 0⟩] scope pos) scope _ _ (newList []) false (eval iter _) (some (assign (.Name y0 py) _))) _ _ s
 refine wpAny_bind (wpAny_mono (wpAny_comprehension_free (use := some (assign (.Name y0 py) _)) (Q := fun _ s' => Q .next s') rfl hs hclos hkind hnames
  (wpAny_mono h (fun xv s₁ h₁ => ?_) fun _ _ e => e)) (fun _ s' hq => wpAny_pure (wpAny_pure hq)) fun _ _ e => e)
 obtain ⟨l, vs, n, G₁, news₁, rfl, hJ0, S, hJl, turn, fin⟩ := h₁
 refine iterL S (hJl _ _ _ _ hJ0) (fun it oit s hit S => ?_)
 refine listS S (fun acc s S => ?_)
 refine comp_enter (R := fun C => compPost (model prog w) A E (some (assign (.Name y0 py) _)) (fun _ s' => Q .next s') _ C) S hcell hkind (fun C oL s f S => ?_)
 have S : St B os G₁ C (fun _ => none) ((it, oit) :: (acc, listOf [].toArray 0) :: (L, oL) :: news₁) s := S.perm ((List.Perm.cons _ (List.Perm.swap ..)).trans ((List.Perm.swap ..).trans (List.Perm.cons _ (List.Perm.swap ..))))
 have loop := loopP (p1 := p1) (p2 := p2) (p3 := p3) (pos := pos) (kt := kt) (iter := iter) (cl := cl) (R := compPost (model prog w) A E (some (assign (.Name y0 py) (envX cn cs L a0 ccd cl0))) (fun _ s' => Q .next s') (.ref acc) C) hh hkind hx1 hx2 hne J hJ hJt hJ0 hJl turn
  (fun G news out na mC s hJ1 S => comp_some (S.perm (List.Perm.swap ..)) f (u := assign (.Name y0 py) (envX cn cs L a0 ccd cl0)) (m' := updM m y0 (.ref acc)) (fun oC s S => wpAny_assign_Name (stX S (fun s S => S) hck hy)) (fun s S => fin _ _ _ _ _ _ hJ1 S)) f hit S
 exact codeAny_compStart_list loop (selfL S (.head _) hit loop)
end
section
variable {prog : Program} {w : World} {A : Around} {E : Value → Shared → Prop} {s s' : Shared} {B : Heap} {os : OsState} {G : Array GenState} {L a : Addr} {m : Str → Option Value} {news : List Cell} {Q : Value → Shared → Prop}
variable {cn : Str} {cs : Scope} {ccd : Value} {cl : List (Str × Addr)}
theorem unpackX2 {t : Addr} {v₁ v₂ : Value} {x₁ x₂ : Str} {p₁ p₂ pos : Pos} {k : Nat} {Q : Unit → Shared → Prop} (S : St B os G L m news s) (hh : A.handled = none) (ht : (t, tupO #[v₁, v₂]) ∈ news)
 (h : ∀ s', St B os G L (updM (updM m x₁ v₁) x₂ v₂) news s' → Q () s')
 (hk : cs.kind = .function := by rfl) (hl₁ : (envX cn cs L a ccd cl).kindOf x₁ = some .local := by rfl) (hl₂ : (envX cn cs L a ccd cl).kindOf x₂ = some .local := by rfl) :
 wpAny (model prog w) A (assign (.Tuple [.Name x₁ p₁, .Name x₂ p₂] k pos) (envX cn cs L a ccd cl) (.ref t)) Q E s := by
 refine wpAny_assign_Tuple hh (tup_is (S.get ht)) rfl rfl (fun h' hx => ?_)
 have S₁ := S.extB (t := s.toks) hx
 show wpAny _ _ (holding [v₂] (standAt p₁ >>= fun _ => bindName _ x₁ v₁) >>= fun _ => holding [] (standAt p₂ >>= fun _ => bindName _ x₂ v₂) >>= fun _ => pure ()) _ _ _
 refine wpAny_bind (wpAny_holding (wpAny_bind (wpAny_standAt (wpAny_bindName (stX S₁ (fun s₂ S₂ => ?_) hk hl₁)))))
 exact wpAny_bind (wpAny_holding (wpAny_bind (wpAny_standAt (wpAny_bindName (stX S₂ (fun s₃ S₃ => wpAny_pure (h _ S₃)) hk hl₂)))))
theorem unpackX3 {t : Addr} {v₁ v₂ v₃ : Value} {x₁ x₂ x₃ : Str} {p₁ p₂ p₃ pos : Pos} {k : Nat} {Q : Unit → Shared → Prop} (S : St B os G L m news s) (hh : A.handled = none) (ht : (t, tupO #[v₁, v₂, v₃]) ∈ news)
 (h : ∀ s', St B os G L (updM (updM (updM m x₁ v₁) x₂ v₂) x₃ v₃) news s' → Q () s')
 (hk : cs.kind = .function := by rfl) (hl₁ : (envX cn cs L a ccd cl).kindOf x₁ = some .local := by rfl) (hl₂ : (envX cn cs L a ccd cl).kindOf x₂ = some .local := by rfl) (hl₃ : (envX cn cs L a ccd cl).kindOf x₃ = some .local := by rfl) :
 wpAny (model prog w) A (assign (.Tuple [.Name x₁ p₁, .Name x₂ p₂, .Name x₃ p₃] k pos) (envX cn cs L a ccd cl) (.ref t)) Q E s := by
 refine wpAny_assign_Tuple hh (tup_is (S.get ht)) rfl rfl (fun h' hx => ?_)
 have S₁ := S.extB (t := s.toks) hx
 show wpAny _ _ (holding [v₂, v₃] (standAt p₁ >>= fun _ => bindName _ x₁ v₁) >>= fun _ => holding [v₃] (standAt p₂ >>= fun _ => bindName _ x₂ v₂) >>= fun _ => holding [] (standAt p₃ >>= fun _ => bindName _ x₃ v₃) >>= fun _ => pure ()) _ _ _
 refine wpAny_bind (wpAny_holding (wpAny_bind (wpAny_standAt (wpAny_bindName (stX S₁ (fun s₂ S₂ => ?_) hk hl₁)))))
 refine wpAny_bind (wpAny_holding (wpAny_bind (wpAny_standAt (wpAny_bindName (stX S₂ (fun s₃ S₃ => ?_) hk hl₂)))))
 exact wpAny_bind (wpAny_holding (wpAny_bind (wpAny_standAt (wpAny_bindName (stX S₃ (fun s₄ S₄ => wpAny_pure (h _ S₄)) hk hl₃)))))
theorem forP {R : Result → Shared → Prop} {x y : Str} {px py pt : Pos} {kt : Nat} {body : List Stmt} {l it : Addr} {oit : Obj} {vs : List Value} {n : Nat} (J : List Value → Array GenState → (Str → Option Value) → List Cell → Prop) (hh : A.handled = none)
 (S : St B os G L m ((it, oit) :: news) s) (hit : LI oit l 0) (hJ : J vs G m news) (hl : ∀ {rem G m news}, J rem G m news → (l, listOf vs.toArray n) ∈ news)
 (hJt : ∀ {v rem G m news}, J (v :: rem) G m news → ∃ ta u p, v = .ref ta ∧ (ta, tupO #[u, p]) ∈ news)
 (turn : ∀ ta u p rem G m news oit s, J (.ref ta :: rem) G m news → (ta, tupO #[u, p]) ∈ news → St B os G L (updM (updM m x u) y p) ((it, oit) :: news) s →
  wpAny (model prog w) A (execs body (envX cn cs L a ccd cl)) (Turned B os L (it, oit) R J rem) (notedBy (model prog w) A (envX cn cs L a ccd cl) fun e s' => R (.error e) s') s)
 (fin : ∀ G m news s, J [] G m news → St B os G L m news s → R (.ok .next) s)
 (hk : cs.kind = .function := by rfl) (hx : (envX cn cs L a ccd cl).kindOf x = some .local := by rfl) (hy : (envX cn cs L a ccd cl).kindOf y = some .local := by rfl) :
 codeAny (model prog w) A (.forLoop (.Tuple [.Name x px, .Name y py] kt pt) (.ref it) body [] (envX cn cs L a ccd cl)) R s := by
 refine forCore J hh S hit hJ (fun h => .inl ⟨n, hl h⟩) (fun v rem G m news oit i s hJ hi S => ?_) fin
 obtain ⟨ta, u, p, ev, hta⟩ := hJt hJ
 rw [ev] at hJ ⊢
 exact wpAny_letOwnedTupleGo_listiter ⟨_, S.get (.head _), hi.1, hi.2⟩ (unpackX2 S hh (.tail _ hta) (fun s S => turn ta u p rem G m news oit s hJ hta S) hk hx hy)
end
theorem tup2_injV {a b c d : Value} (h : (tupO #[a, b] : Obj) = tupO #[c, d]) : c = a ∧ d = b := by
 injection h with _ _ h
 injection h with h
 injection h with h
 injection h with h1 h2
 injection h2 with h2
 exact ⟨h1.symm, h2.symm⟩
section
variable {prog : Program} {w : World} {A : Around} {E : Value → Shared → Prop} {s s' : Shared} {B : Heap} {os : OsState} {G : Array GenState} {L C a P D : Addr} {m mC : Str → Option Value} {news : List Cell} {o oL : Obj} {Q : Value → Shared → Prop}
variable {cn : Str} {cs : Scope} {ccd : Value} {cl : List (Str × Addr)}
theorem sortM {its : Array Value} {n : Nat} {pl : Sem Bool} {Q : Value × List Value → Shared → Prop} (S : St B os G L m news s) (hl : (D, listOf its n) ∈ news) (h : Q (.builtin "list.sort", [.ref D]) s) : wpAny (model prog w) A (getMethod (.ref D) "sort" pl) Q E s :=
 listMethod_K S.N hl PySem.F.slot_list_sort PySem.F.type_list_sort h
theorem sortTupP {pc : List Cell} {vs : List Value} {ps : List (Str × Str)} {n : Nat} {P : PySem.Fin → Shared → Prop} (S : St B os G L m ((a, listOf vs.toArray n) :: news) s) (hsub : ∀ p ∈ pc, p ∈ news) (hp : Pairs pc vs ps) (hnd : ps.Nodup) (h64 : ps.length < 64)
 (h : ∀ vs' n' s', Pairs pc vs' (lsort pkey ps) → St B os G L m ((a, listOf vs'.toArray n') :: news) s' → P (.done (.ret .none)) s') : wpAny (model prog w) A (Builtin.«list.sort» ⟨[.ref a], []⟩) P E s := by
 obtain ⟨it, e1, e2, e3⟩ := hp.zip
 have inj : ∀ x y : Str × Str, pkey x = pkey y → x = y := fun ⟨x1, x2⟩ ⟨y1, y2⟩ e => by
  simp only [pkey, List.cons.injEq, and_true] at e
  rw [e.1, e.2]
 have hnd2 : (ps.map pkey).Nodup := by
  rw [List.nodup_iff_pairwise_ne, List.pairwise_map]
  exact (List.nodup_iff_pairwise_ne.mp hnd).imp fun {x y} hne e => hne (inj _ _ e)
 have m1 : (it.map fun x => ((x.1, pkey x.2) : Item)).map (·.1) = vs := by rw [List.map_map]; exact e1
 have m2 : (it.map fun x => ((x.1, pkey x.2) : Item)).map (·.2) = ps.map pkey := by rw [List.map_map, ← e2, List.map_map]; rfl
 have hl : it.length = ps.length := by simpa using congrArg List.length e2
 refine sortS (κ := tuples' true) (items := it.map fun x => ((x.1, pkey x.2) : Item)) (n := n) (news := news) (by rw [m1]; exact S) (by rw [m2]; exact hnd2) (by simpa [hl] using h64) (fun ee s' h2 S' Q hQ => ?_) (fun ee s' S' x hx y hy Q hQ => ?_) (fun n' s' S' => ?_)
 · rw [m1]
   refine kat_kind (fs := it.map fun x => (s'.heap.get? (match x.1 with | .ref a => a | _ => 0)).elim .none fun o => match o.data with | .seq xs _ => xs.getD 0 .none | _ => .none) (T := .type "str") ?_ (by simp at h2 ⊢; lia) (fun v hv => ?_) (by decide) hQ
   · rw [← e1]
     have : ∀ it' : List (Value × (Str × Str)), (∀ x ∈ it', x ∈ it) → KatTups s'.heap (it'.map (·.1)) (it'.map fun x => (s'.heap.get? (match x.1 with | .ref a => a | _ => 0)).elim .none fun o => match o.data with | .seq xs _ => xs.getD 0 .none | _ => .none) := by
      intro it'
      induction it' with
      | nil => intro _; exact KatTups.nil
      | cons x it' ih =>
       intro hx
       obtain ⟨a, t1, t2, e, hm⟩ := e3 x (hx x (.head _))
       have hg := S'.get (.tail _ (hsub _ hm))
       rw [List.map_cons, List.map_cons, e]
       refine KatTups.cons hg rfl rfl ?_ (ih fun y hy => hx y (.tail _ hy))
       simp only [hg]
       rfl
     exact this it fun _ h => h
   · obtain ⟨x, hx, rfl⟩ := List.mem_map.mp hv
     obtain ⟨a, t1, t2, e, hm⟩ := e3 x hx
     have hg := S'.get (.tail _ (hsub _ hm))
     rw [e]
     simp only [hg]
     exact Looks.now
 · obtain ⟨x, hx', rfl⟩ := List.mem_map.mp hx
   obtain ⟨y, hy', rfl⟩ := List.mem_map.mp hy
   obtain ⟨a, t1, t2, e, hm⟩ := e3 x hx'
   obtain ⟨b, u1, u2, e', hm'⟩ := e3 y hy'
   show wpAny _ _ (keyLt' (tuples' true) x.1 y.1) _ _ _
   rw [e, e']
   exact askTup (S'.get (.tail _ (hsub _ hm))) (S'.get (.tail _ (hsub _ hm'))) hQ
 · have es : lsort ikey (it.map fun x => ((x.1, pkey x.2) : Item)) = (lsort (fun x : Value × (Str × Str) => pkey x.2) it).map fun x => ((x.1, pkey x.2) : Item) := by
    symm
    refine lsort_of ((lsort_perm it).map _) (List.pairwise_map.mpr (lsort_up (key := fun x : Value × (Str × Str) => pkey x.2) ?_))
    have : it.map (fun x : Value × (Str × Str) => pkey x.2) = ps.map pkey := by rw [← e2, List.map_map]; rfl
    rw [this]; exact hnd2
   rw [es, List.map_map] at S'
   have ep : (lsort (fun x : Value × (Str × Str) => pkey x.2) it).map (·.2) = lsort pkey ps := by
    refine lsort_of ?_ (List.pairwise_map.mpr (lsort_up (key := fun x : Value × (Str × Str) => pkey x.2) ?_))
    · rw [← e2]; exact (lsort_perm it).map _
    · have : it.map (fun x : Value × (Str × Str) => pkey x.2) = ps.map pkey := by rw [← e2, List.map_map]; rfl
      rw [this]; exact hnd2
   refine h _ n' s' ?_ S'
   rw [← ep]
   exact Pairs.of_zip fun x hx => e3 x ((lsort_perm it).subset hx)
theorem sortTupC {pc : List Cell} {vs : List Value} {ps : List (Str × Str)} {n : Nat} (S : St B os G L m ((a, listOf vs.toArray n) :: news) s) (hsub : ∀ p ∈ pc, p ∈ news) (hp : Pairs pc vs ps) (hnd : ps.Nodup) (h64 : ps.length < 64)
 (h : ∀ vs' n' s', Pairs pc vs' (lsort pkey ps) → St B os G L m ((a, listOf vs'.toArray n') :: news) s' → Q .none s') : wpAny (model prog w) A (call (.builtin "list.sort") [.ref a]) Q E s :=
 wpAny_call_entry slot_list_sort ⟨_, S.get (.head _), rfl⟩ entry_list_sort (sortTupP S hsub hp hnd h64 fun vs' n' s' h1 h2 => ⟨_, rfl, h vs' n' s' h1 h2⟩) (args_list_sort _)
theorem itemsM {kvs : Kvs} {pl : Sem Bool} {Q : Value × List Value → Shared → Prop} (S : St B os G L m news s) (hD : (D, o) ∈ news) (hd : DicO prog w o kvs) (h : Q (.builtin "dict.items", [.ref D]) s) : wpAny (model prog w) A (getMethod (.ref D) "items" pl) Q E s :=
 kdl_method (knd := PySem.strKind _ _) PySem.F.slot_dict_items PySem.F.type_dict_items S.N hD hd h
theorem itemsV {kvs : Kvs} (S : St B os G L m news s) (hD : (D, o) ∈ news) (hd : DicO prog w o kvs) (hm : (D == sysModules) = false) (h : ∀ v s', St B os G L m ((v, itvO D) :: news) s' → Q (.ref v) s') : wpAny (model prog w) A (call (.builtin "dict.items") [.ref D]) Q E s :=
 kdx_view S.F S.N hD hd hm (fun v h' F' N' hl => h v _ (S.cons (s' := { s with heap := h' }) F' N' hl))
theorem truthyL {l : List Value} {n : Nat} {Q : Bool → Shared → Prop} (S : St B os G L m news s) (hl : (D, listOf l.toArray n) ∈ news) (hz : l.length < 1000000) (h : ∀ s', St B os G L m news s' → Q (!l.isEmpty) s') : wpAny (model prog w) A (truthy (.ref D)) Q E s := by
 refine wpAny_truthy_list (listOf_isList (S.get hl)) (by simp; lia) ?_
 rw [List.isEmpty_toArray]
 exact h _ S.tk
theorem truthyT {x : Str} {t : Tok} {Q : Bool → Shared → Prop} (S : St B os G L m news s) (hz : x.length ≤ 2000) (h : ∀ s', St B os G L m news s' → Q (decide (x ≠ Str.empty)) s') : wpAny (model prog w) A (truthy (.str x t)) Q E s := by
 refine PySem.P.truthy_str (by lia) ?_
 have e : ((x.length : Int) != 0) = decide (x ≠ Str.empty) := by
  by_cases q : x = Str.empty
  · subst q; decide
  · have : x.length ≠ 0 := fun e => q (str_len0'.mp e)
    rw [decide_eq_true q]
    simp; lia
 rw [e]
 exact h _ S.tk
theorem app_inj {x a b : Str} (h : x ++ a = x ++ b) : a = b := by
 refine Str.ext' ?_
 have := congrArg (fun z : Str => z.cps.toList) h
 have e : ∀ y : Str, (x ++ y).cps.toList = x.cps.toList ++ y.cps.toList := fun y => Array.toList_append
 simp only [e] at this
 exact Array.toList_inj.mp (List.append_cancel_left this)
noncomputable def declL (lv : List (Str × Str)) : List (Str × Str) := lsort pkey (lv.map fun p => (txt "xmlns:" ++ p.2, p.1))
inductive JDe (f : Str × Str → Str × Str) (lv : List (Str × Str)) (G : Array GenState) (news : List Cell) (rem : List Value) (G₁ : Array GenState) (nx : List Cell) (out : List Value) : Prop
 | mk {l1 l2 tc} (eG : G₁ = G) (e1 : lv = l1 ++ l2) (en : nx = tc ++ news) (h3 : Pairs news rem l2) (h4 : Pairs tc out (l1.map f)) : JDe f lv G news rem G₁ nx out
theorem JDe.elim {P : Prop} {f : Str × Str → Str × Str} {lv : List (Str × Str)} {rem : List Value} {G₁ : Array GenState} {nx : List Cell} {out : List Value} (h : JDe f lv G news rem G₁ nx out) (k : ∀ l1 l2 tc, G₁ = G → lv = l1 ++ l2 → nx = tc ++ news → Pairs news rem l2 → Pairs tc out (l1.map f) → P) : P := by
 cases h with
 | mk a1 a2 a3 a4 a5 => exact k _ _ _ a1 a2 a3 a4 a5
theorem tup2_of {ta : Addr} {u' p' : Str} {t1 t2 : Tok} {u p : Value} (S : St B os G L m news s) (hx : (ta, tupO #[.str u' t1, .str p' t2]) ∈ news) (ht : (ta, tupO #[u, p]) ∈ news) : u = .str u' t1 ∧ p = .str p' t2 :=
 tup2_injV (Option.some.inj ((S.get hx).symm.trans (S.get ht)))
theorem tup2s {ta : Addr} {u' p' u p : Str} {t1' t2' t1 t2 : Tok} (S : St B os G L m news s) (hx : (ta, tupO #[.str u' t1', .str p' t2']) ∈ news) (ht : (ta, tupO #[.str u t1, .str p t2]) ∈ news) : u = u' ∧ p = p' := by
 obtain ⟨e1, e2⟩ := tup2_injV (Option.some.inj ((S.get hx).symm.trans (S.get ht)))
 injection e1 with e1 _
 injection e2 with e2 _
 exact ⟨e1, e2⟩
set_option maxHeartbeats 1000000 in
theorem declsStmt {p1 p2 p3 p4 p5 p6 p7 p8 p9 p10 p11 p12 p13 p14 p15 p16 p17 p18 p19 p20 p21 p22 p23 p24 : Pos} {k1 k2 k3 k4 : Nat} {scope : Scope} {e : PySem.Expr} {nn : Addr} {its : Array Value} {n : Nat} {lv : List (Str × Str)} {Q : Flow → Shared → Prop} (hh : A.handled = none)
 (S : St B os G L m news s) (m1 : m (txt "new_namespaces") = some (.ref nn)) (hn : (nn, listOf its n) ∈ news) (hp : Pairs news its.toList lv) (hnd : lv.Nodup) (hpo : ∀ p ∈ lv, p.2 ≠ Str.empty ∧ p.2.length ≤ 900) (hz : lv.length < 60)
 (hsc : scope = { kind := .function, names := [(txt ".0", .local), (txt "uri", .local), (txt "prefix", .local)], isGenerator := false, isCoroutine := false, more := [] }) (hk : cs.kind = .function) (l1 : (envX cn cs L a ccd cl).kindOf (txt "new_namespaces") = some .local) (l2 : (envX cn cs L a ccd cl).kindOf (txt "attr_list") = some .local) (hline : (p18.endLine == p19.line) = true)
 (he : e = (.ListComp (.Tuple [.IfExp (.Name (txt "prefix") p3) (.BinOp (.Constant (.str (txt "xmlns:")) k1 p4) .Add (.Name (txt "prefix") p5) p6) (.Constant (.str (txt "xmlns")) k2 p7) p8, .Name (txt "uri") p9] k3 p10)
  [⟨.Tuple [.Name (txt "uri") p11, .Name (txt "prefix") p12] k4 p13, .Name (txt "new_namespaces") p14, [], 0⟩] scope p15)) (hsw : swapsWith e (some (.Name (txt "attr_list") p2)) p16.line (envX cn cs L a ccd cl) = pure true)
 (h : ∀ al vs n' tc s', Pairs tc vs (declL lv) → St B os G L (updM m (txt "attr_list") (.ref al)) ((al, listOf vs.toArray n') :: (tc ++ news)) s' → Q .next s') :
 wpAny (model prog w) A (exec (.If (.Name (txt "new_namespaces") p1) [.Assign [.Name (txt "attr_list") p2] e p16, .Expr (.Call (.Attribute (.Name (txt "attr_list") p17) (txt "sort") p18) [] [] p19) p20] [.Assign [.Name (txt "attr_list") p21] (.List [] p22) p23] p24) (envX cn cs L a ccd cl)) Q E s := by
 subst hsc he
 have hl : its.toList.length = lv.length := hp.length
 refine wpAny_If (wpAny_isTrue_value (ldX S m1 ?_ hk l1))
 refine truthyL (l := its.toList) S (by simpa using hn) (by lia) (fun s S => ?_)
 cases hlv : lv with
 | nil =>
  subst hlv
  have e0 : its.toList = [] := List.length_eq_zero_iff.mp hl
  rw [e0]
  refine ifF rfl ?_
  refine wpAny_execs_cons (wpAny_Assign_Name (List_ (spliced_none (listS S (fun al s S => stX S (fun s S => wpAny_execs_nil ?_) hk l2)))))
  exact h al [] 0 [] s .nil S
 | cons p0 lv0 =>
  refine ifT ?_ ?_
  · rw [hlv] at hl
    cases hi : its.toList with
    | nil => rw [hi] at hl; simp at hl
    | cons _ _ => rfl
  refine wpAny_execs_cons ?_
  refine compPA (m := m) (B := B) (os := os) (L := L) hh hsw l2 hk (by rfl) (by decide) rfl (by decide) (by rfl) (by rfl) (by decide) (by intro _; rfl)
   (JDe (fun p => (txt "xmlns:" ++ p.2, p.1)) lv G news) ?_ ?_ ?_
  · exact fun rem G₁ news₁ out hJ => hJ.elim fun l1 l2 tc _ e1 _ _ h4 => by
     have := h4.length
     have e2 := congrArg List.length e1
     simp at this e2
     lia
  · exact fun v rem G₁ news₁ out hJ => hJ.elim fun l1 l2 tc _ _ en h3 _ => h3.consE fun _ _ _ _ _ _ ev _ hx _ => ⟨_, _, _, _, _, ev, en ▸ List.mem_append_right _ hx⟩
  · refine ldX S m1 ?_ hk l1
    refine ⟨nn, its.toList, n, G, news, rfl, .mk (l1 := []) (tc := []) rfl rfl rfl hp .nil, S, ?_, ?_, ?_⟩
    · exact fun rem G₁ news₁ out hJ => hJ.elim fun l1 l2 tc _ _ en _ _ => en ▸ List.mem_append_right _ (by simpa using hn)
    · intro v rem out ta u p t1 t2 acc na C oL it oit mC G₁ news₁ s₃ E' hJ hv hta fC c1 c2 S
      refine wabs (fun Q' E2 hQ' => ?_)
      refine hJ.elim (fun l1 l2 tc eG e1 en h3 h4 => ?_)
      refine h3.consE (fun a' u' p' t1' t2' l2' ev el2 hx hr => ?_)
      · cases hv.symm.trans ev
        rw [en] at hta S
        rw [el2] at e1
        obtain ⟨eu, ep⟩ := tup2s S (.tail _ (.tail _ (.tail _ (List.mem_append_right _ hx)))) (.tail _ (.tail _ (.tail _ hta)))
        rw [eu] at c1
        rw [ep] at c2
        have hpp := hpo (u', p') (by rw [e1]; simp)
        refine Tuple_ (spliced_more (wpAny_IfExp (wpAny_isTrue_value (ldComp S c2 ?_))))
        refine truthyT S (by have : p'.length ≤ 900 := hpp.2; lia) (fun s S => ifT (by simpa using hpp.1) ?_)
        refine wpAny_BinOp (wpAny_Constant_str (ldComp S.tk c2 ?_))
        refine add_str (fun t4 tk => ?_) (by have : (txt "xmlns:").length = 6 := by decide
                                             have : p'.length ≤ 900 := hpp.2
                                             rw [PySem.sizeLine_eq]; lia)
        have S := S.tk (t := tk)
        refine spliced_more (ldComp S c1 (spliced_none (tupS S (fun ta' s S => ?_))))
        refine hQ' _ _ ⟨G₁, (ta', tupO #[.str (txt "xmlns:" ++ p') t4, .str u' t1]) :: (tc ++ news), (.mk (l1 := l1 ++ [(u', p')]) (tc := (ta', tupO #[.str (txt "xmlns:" ++ p') t4, .str u' t1]) :: tc) eG (by rw [e1]; simp) rfl hr ?_), S.perm (List.perm_middle (l₁ := [_, _, _])).symm⟩
        rw [List.map_append]
        exact (h4.mono fun p hp => .tail _ hp).app (.cons (.head _) .nil)
    · intro G₁ news₁ out acc na s₃ hJ S
      refine hJ.elim (fun r1 r2 tc eG e1 en h3 h4 => ?_)
      rw [h3.nilE, List.append_nil] at e1
      rw [← e1] at h4
      rw [← eG] at h
      replace S := S.castC en
      refine wpAny_execs_cons (wpAny_Expr_any ?_ (by show (cs.kind == .module && (cs.more.any _)) = false; rw [hk]; rfl) (by rfl))
      refine methodCall_S rfl rfl hline (ldX S (by rfl) ?_ hk l2)
      intro pl
      refine sortM S (.head _) ?_
      refine callWith_method0 ?_
      refine sortTupC S (fun p hp => List.mem_append_left _ hp) h4 ?_ (by simp; lia) (fun vs' n' s hp' S => wpAny_execs_nil ?_)
      · refine List.pairwise_map.mpr (hnd.imp fun {x y} hne q => hne ?_)
        obtain ⟨x1, x2⟩ := x
        obtain ⟨y1, y2⟩ := y
        injection q with q1 q2
        rw [show x2 = y2 from app_inj q1, show x1 = y1 from q2]
      · exact h acc vs' n' tc s hp' S
end
end Mine
end
section
open PySem PySem.W PySem.Calls PyProof.Rows PySem.Builtin.Str
open PySem.Str (ofString)
namespace Mine
section
variable {prog : Program} {w : World} {A : Around} {E : Value → Shared → Prop} {s s' : Shared} {B : Heap} {os : OsState} {G : Array GenState} {L D : Addr} {m : Str → Option Value} {news news' : List Cell} {env : Env} {o : Obj} {Q : Value → Shared → Prop}
theorem divmodS {x y : Int} {t u : Tok} (S : St B os G L m news s) (hb : y ≠ 0) (hy : y.natAbs < 1000)
 (h : ∀ a t1 t2 s', St B os G L m ((a, tupO #[.int (x.fdiv y) t1, .int (x.fmod y) t2]) :: news) s' → Q (.ref a) s') : wpAny (model prog w) A (call (.builtin "divmod") [.int x t, .int y u]) Q E s :=
 divmod_N S.F S.N hb (fun h' F' N' => h _ _ _ _ (S.cons (s' := { s with heap := h', toks := _ }) F' N' fun _ hp => S.lt hp)) (Or.inl (PyProof.noPylong_small (by lia)))
theorem clearM {its : Array Value} {n : Nat} {pl : Sem Bool} {Q : Value × List Value → Shared → Prop} (S : St B os G L m news s) (hl : (D, listOf its n) ∈ news) (h : Q (.builtin "list.clear", [.ref D]) s) : wpAny (model prog w) A (getMethod (.ref D) "clear" pl) Q E s :=
 kl_method S.N hl PySem.F.slot_list_clear PySem.F.type_list_clear h
theorem clearL {l : List Value} {n : Nat} {news' : Nat → List Cell} (S : St B os G L m news s) (U : ∀ n', Up D (listOf l.toArray n) (listOf [].toArray n') news (news' n')) (hz : l.length < 100000)
 (h : ∀ n' s', St B os G L m (news' n') s' → Q .none s') : wpAny (model prog w) A (call (.builtin "list.clear") [.ref D]) Q E s := by
 have hD := S.get (U 0).mem
 obtain ⟨n', e⟩ := mapSeq_any (fun _ => #[]) l.toArray n
 refine call_meets PySem.F.slot_list_clear ⟨_, hD, rfl⟩ PySem.F.entry_list_clear (PySem.F.args_list_clear_1 _) (PySem.AutoSeq1.list_clear_list_0 D l.toArray n (by rw [PySem.sizeLine_eq, List.size_toArray]; lia)) ⟨hD, h n' _ (S.same (t := s.toks) (U n') (Heap.SameBut.update ..) ?_)⟩
 rw [Heap.get?_update_self _ hD (by rw [e]; rfl), e]
theorem neNil {a b : Addr} {l : List Value} {n n2 : Nat} (S : St B os G L m news s) (ha : (a, listOf l.toArray n) ∈ news) (hb : (b, listOf [].toArray n2) ∈ news) (hu : A.units < cLine) (h : Q (.bool (decide (l ≠ []))) s) :
 wpAny (model prog w) A (compareOp .NotEq (.ref a) (.ref b)) Q E s := by
 cases l with
 | nil =>
  refine SeqAt.RcNeAt.lists (e := fun _ => true) (listOf_isList (S.get ha)) (listOf_isList (S.get hb)) rfl hu (fun j h1 h2 => absurd h1 (Nat.not_lt_zero _)) prog w E Q ?_
  simpa using h
 | cons x r =>
  refine SeqAt.RcNeAt.lists_lengths (listOf_isList (S.get ha)) (listOf_isList (S.get hb)) (by simp) hu prog w E Q ?_
  simpa using h
theorem neNilI {a b : Addr} {l : Array Value} {n2 : Nat} (S : St B os G L m news s) (ha : s.heap.IsList a l) (hb : (b, listOf [].toArray n2) ∈ news) (hu : A.units < cLine) (h : Q (.bool (decide (l.toList ≠ []))) s) :
 wpAny (model prog w) A (compareOp .NotEq (.ref a) (.ref b)) Q E s := by
 by_cases e : l = #[]
 · subst e
   refine SeqAt.RcNeAt.lists (e := fun _ => true) ha (listOf_isList (S.get hb)) rfl hu (fun j h1 h2 => absurd h1 (Nat.not_lt_zero _)) prog w E Q ?_
   simpa using h
 · have e2 : l.size ≠ 0 := fun h0 => e (Array.eq_empty_of_size_eq_zero h0)
   refine SeqAt.RcNeAt.lists_lengths ha (listOf_isList (S.get hb)) (by simpa using e) hu prog w E Q ?_
   simpa [e] using h
theorem dictCopyS {kvs : Kvs} (S : St B os G L m news s) (hlim : B.NoLimit) (hD : (D, o) ∈ news) (hd : DicO prog w o kvs) (hm : (D == sysModules) = false) (hz : kvs.length ≤ 1000)
 (h : ∀ a o' s', DicO prog w o' kvs → (a == sysModules) = false → St B os G L m ((a, o') :: news) s' → Q (.ref a) s') : wpAny (model prog w) A (call (.type "dict") [.ref D]) Q E s := by
 refine kt_call_dict (knd := strKind prog w) hm (Heap.dictOf_iff.mpr ⟨o, S.get hD, hd⟩) (by rw [PySem.sizeLine_eq]; lia) fun h' hm' hs => ?_
 obtain ⟨o', ho', hd'⟩ := Heap.dictOf_iff.mp hm'
 have S1 := S.push (t := s.toks) ({ cls := .type "dict", data := .dict #[] } : Obj)
 exact h _ o' _ hd' (S.F.notModules (modules_low hlim)) (S1.same (t := s.toks) .head hs ho')
theorem getItemL {l : List Value} {x : Value} {n k : Nat} {u : Tok} (S : St B os G L m news s) (hl : (D, listOf l.toArray n) ∈ news) (hk : l[k]? = some x) (hz : l.length ≤ 1000) (h : Q x s) : wpAny (model prog w) A (getItem (.ref D) (.int (k : Int) u)) Q E s := by
 have hlt : k < l.length := (List.getElem?_eq_some_iff.mp hk).1
 exact wpAny_getItem_list (listOf_isList (S.get hl)) (by lia) (by lia) (by simpa using hk) h
theorem setItemL {l q : List Value} {n k : Nat} {u : Tok} {v : Value} {Q : Unit → Shared → Prop} (S : St B os G L m news s) (e : ki_setL l k v = some q) (U : Up D (listOf l.toArray n) (listOf q.toArray n) news news') (hz : l.length ≤ 1000) (hk : k < 1000)
 (h : ∀ s', St B os G L m news' s' → Q () s') : wpAny (model prog w) A (setItem (.ref D) (.int (k : Int) u) v) Q E s :=
 ki_set (its := l.toArray) S.F S.N (by lia) (by lia) (by simpa using e) (U.upd S.nd) (fun h' F' N' => h _ (S.to (s' := { s with heap := h' }) F' N' U.keys))
theorem joinOut {D : Addr} {l : List Str} {vs : List Value} {n : Nat} {t : Tok} (S : St B os G L m news s) (hD : (D, listOf vs.toArray n) ∈ news) (h1 : OutIs vs l) (hj : JoinOk (ofString "") l = true) (h : ∀ t s', St B os G L m news s' → Q (.str (Txt.join (ofString "") l) t) s') :
 wpAny (model prog w) A (call (.builtin "str.join") [.str (ofString "") t, .ref D]) Q E s := by
 obtain ⟨ps, rfl, hp⟩ := h1
 refine SC.join (l := ps) (texts := l) (listOf_isList (S.get hD)) hp hj (fun t' k => ?_)
 exact h _ _ S.tk
theorem splitS {x y : Str} {t u : Tok} (S : St B os G L m news s) (hy : (y.length == 0) = false) (hx : x.length ≤ 1000000)
 (h : ∀ l a s', l.map (·.1) = Txt.split x y → St B os G L m ((a, listOf (strValues l).toArray 0) :: news) s' → Q (.ref a) s') : wpAny (model prog w) A (call (.builtin "str.split") [.str x t, .str y u]) Q E s :=
 splitN1A S.F S.N hy (fun l h' tk e _ _ _ F N => h l _ _ e (S.cons (s' := { s with heap := h', toks := tk }) F N fun _ hp => S.lt hp)) (by rw [PySem.sizeLine_eq]; lia)
noncomputable def midS (x : Str) : Str := ⟨((x.cps.toList.drop 1).dropLast).toArray⟩
theorem pick_mid (x : Str) (u v : Tok) (h : 2 ≤ x.length) : slicePicked x (some (1, u)) (some (-1, v)) none = (List.range ((x.length - 1) - 1)).map (fun k => 1 + k) := by
 show strSliceIndices (some 1) (some (-1)) 1 x.length = _
 rw [StrLaws.sliceIdx_neg_hi _ _ (by decide) (by lia)]
 have e : (-1 : Int) + (x.length : Int) = ((x.length - 1 : Nat) : Int) := by lia
 rw [e]
 exact StrLaws.strSliceIndices_plain (a := 1) (by lia) (by lia)
theorem whileS {R : Result → Shared → Prop} {test : PySem.Expr} {body : List Stmt} {n : Nat} (J : Nat → Array GenState → (Str → Option Value) → List Cell → Prop) (S : St B os G L m news s) (hJ : J n G m news)
 (turn : ∀ n G m news s, J n G m news → St B os G L m news s → wpAny (model prog w) A (isTrue test env (eval test env)) (fun b s₂ =>
  if b = true then wpAny (model prog w) A (execs body env) (fun fl s₃ => fl = .next ∧ ∃ n' G' m' news', n' < n ∧ J n' G' m' news' ∧ St B os G' L m' news' s₃) (fun _ _ => False) s₂ else R (.ok .next) s₂) (fun _ _ => False) s) :
 codeAny (model prog w) A (.whileLoop test body [] env) R s := by
 refine codeAny_whileLoop (fun n s => ∃ G m news, J n G m news ∧ St B os G L m news s) ?_ n ⟨G, m, news, hJ, S⟩
 rintro n s ⟨G, m, news, hJ, S⟩
 refine wpAny_mono (turn n G m news s hJ S) (fun b s₂ h₂ => ?_) (fun _ _ z => z.elim)
 cases b with
 | false =>
  simp only [Bool.false_eq_true, if_false] at h₂ ⊢
  exact wpAny_execs_nil h₂
 | true =>
  simp only [if_true] at h₂ ⊢
  refine wpAny_mono h₂ (fun f s₃ h₃ => ?_) (fun _ _ z => z.elim)
  obtain ⟨rfl, n', G', m', news', hn, hJ', S'⟩ := h₃
  exact ⟨n', hn, G', m', news', hJ', S'⟩
theorem stmt_cut2 {st : Stmt} {rs : List Stmt} {Q : Flow → Shared → Prop} (I : Shared → Prop) (h : ∀ Q' : Flow → Shared → Prop, (∀ s, I s → Q' .next s) → wpAny (model prog w) A (exec st env) Q' E s) (k : ∀ s, I s → wpAny (model prog w) A (execs rs env) Q E s) : wpAny (model prog w) A (execs (st :: rs) env) Q E s :=
 stmt_cut I (h (fun f s => f = .next ∧ I s) fun s hs => ⟨rfl, hs⟩) k
end
end Mine
end
section
open PySem PySem.W PySem.Calls PyProof.Rows
open PySem.Str (ofString)
namespace Mine
structure Kin (σ τ : Wn) : Prop where
 bm : τ.bm = σ.bm
 das : τ.dec.map (·.1) = σ.dec.map (·.1)
theorem Kin.refl {σ : Wn} : Kin σ σ := ⟨rfl, rfl⟩
theorem Kin.trans {σ τ υ : Wn} (h : Kin σ τ) (h2 : Kin τ υ) : Kin σ υ := ⟨h2.bm.trans h.bm, h2.das.trans h.das⟩
structure NmOk (q uri tag : Str) : Prop where
 len : q.length ≤ 900
 ut : uri.length ≤ 900
 tt : tag.length ≤ 900
 cut : ((q.cps.toList.take 1 == (ofString "{").cps.toList) = true ∧ Txt.rsplitMax (tailS q) (ofString "}") 1 = [uri, tag]) ∨ ((q.cps.toList.take 1 == (ofString "{").cps.toList) = false ∧ uri = (ofString "") ∧ tag = q)
noncomputable def PrOk (l : List (Str × Str)) : Prop := ∀ p ∈ l, p.2 ≠ Str.empty ∧ p.2.length ≤ 900
noncomputable def PrOkS (l : List Str) : Prop := ∀ p ∈ l, p ≠ Str.empty ∧ p.length ≤ 900
theorem firstP_mem {uri p : Str} : ∀ {l : List (Str × Str)}, firstP uri l = some p → p ∈ l.map (·.2)
 | [], h => by cases h
 | (u, p') :: r, h => by
  unfold firstP at h
  split at h
  · cases h; exact .head _
  · exact .tail _ (firstP_mem h)
noncomputable def nPre (b : Ab) : Str := Str.empty ++ (ofString "n") ++ Str.ofString (toString (b.pmap.length : Int))
theorem intText_len (n : Nat) (h : n < 100) : (Str.ofString (toString (n : Int))).length ≤ 4 := by
 have : ∀ k : Fin 100, (Str.ofString (toString ((k.val : Nat) : Int))).length ≤ 4 := by decide +kernel
 exact this ⟨n, h⟩
theorem nPre_len {b : Ab} (h : b.pmap.length < 100) : (nPre b).length ≤ 900 := by
 have := intText_len b.pmap.length h
 have z0 : Str.empty.length = 0 := by decide
 have z1 : (ofString "n").length = 1 := by decide
 rw [nPre, len_app, len_app]; lia
theorem nPre_ne {b : Ab} : nPre b ≠ Str.empty := fun e => by
 have z0 : Str.empty.length = 0 := by decide
 have z1 : (ofString "n").length = 1 := by decide
 have := congrArg Str.length e
 rw [nPre, len_app, len_app] at this; lia
noncomputable def qnA (c : Cfg) (b : Ab) (uri tag : Str) : Option (Str × Ab) :=
 match findP uri (outsA b.dec) (fun _ => false) with
 | some p => some (colon p tag, b)
 | none =>
  if c.rw = true then
   match firstP uri b.pmap with
   | some p => some (colon p tag, { b with dec := addLast b.dec (uri, p) })
   | none => some (colon (nPre b) tag, { b with dec := addLast b.dec (uri, nPre b), pmap := b.pmap ++ [(uri, nPre b)] })
  else if uri = (ofString "") then some (tag, b)
  else match firstP uri (outsA b.nss) with
   | some p => some (colon p tag, { b with dec := addLast b.dec (uri, p) })
   | none => none
section
variable {w : World} {A : Around} {E : Value → Shared → Prop} {s : Shared} {R : Result → Shared → Prop} {B : Heap} {os : OsState} {G : Array GenState} {L : Addr} {m : Str → Option Value} {rest : List Cell} {σ : Wn} {c : Cfg} {x pl : Addr} {b : Ab}
theorem findP_mem {uri p : Str} : ∀ {l : List (Str × Str)} {T : Str → Bool}, findP uri l T = some p → ∃ q ∈ l, q.2 = p
 | [], _, h => by cases h
 | (u, p') :: r, T, h => by
  unfold findP at h
  split at h
  · cases h
    exact ⟨_, .head _, rfl⟩
  · obtain ⟨q, hq, e⟩ := findP_mem h
    exact ⟨q, .tail _ hq, e⟩
theorem tailS_len (q : Str) : (tailS q).length ≤ q.length := by
 show (q.cps.toList.drop 1).toArray.size ≤ q.cps.size
 simp
theorem pm_new {kvs : List (Str × Str × Tok)} {o' : Obj} {uri p : Str} {t : Tok} (v2 : valueAt (tkv kvs) uri = none) (h : DicO progN w o' (stored (tkv kvs) uri (.str p t))) : ∃ kvs', DicO progN w o' (tkv kvs') ∧ tps kvs' = tps kvs ++ [(uri, p)] := by
 refine ⟨kvs ++ [(uri, p, t)], ?_, by simp⟩
 rw [stored_new v2] at h
 rw [tkv, List.map_append]
 exact h
set_option maxHeartbeats 1000000 in
theorem declStmt {uri p : Str} {tu tp : Tok} {p1 p2 p3 p4 p5 p6 p7 p8 p9 p10 p11 : Pos} {k1 k2 : Nat} {qual : Str} {scope : Scope} {f : Addr} {cd : Value} {Q : Flow → Shared → Prop} (C : Cx (hd.heap_1 w.params) B) (S : St B os G L m (σ.cells 150 ++ rest) s) (hW : WIs progN w c x pl b σ) (hdn : b.dec ≠ []) (hlz : ∀ v ∈ b.dec, v.length < 900)
 (m1 : m (ofString "self") = some (.ref x)) (m2 : m (ofString "uri") = some (.str uri tu)) (m3 : m (ofString "prefix") = some (.str p tp)) (hk : scope.kind = .function) (l1 : (envOf qual scope L f cd).kindOf (ofString "self") = some .local) (l2 : (envOf qual scope L f cd).kindOf (ofString "uri") = some .local) (l3 : (envOf qual scope L f cd).kindOf (ofString "prefix") = some .local) (hline : (p6.endLine == p10.line) = true)
 (h : ∀ σ' s', Kin σ σ' → WIs progN w c x pl { b with dec := addLast b.dec (uri, p) } σ' → St B os G L m (σ'.cells 150 ++ rest) s' → Q .next s') :
 wpAny (model progN w) A (exec (.Expr (.Call (.Attribute (.Subscript (.Attribute (.Name (ofString "self") p1) (ofString "_declared_ns_stack") p2) (.UnaryOp .USub (.Constant (.int 1) k1 p3) p4) p5) (ofString "append") p6) [.Tuple [.Name (ofString "uri") p7, .Name (ofString "prefix") p8] k2 p9] [] p10) p11) (envOf qual scope L f cd)) Q E s := by
 obtain ⟨⟨am, nz, a⟩, e1, e2, hda, hou, hde, hns, hpm, hps, hpn, x1, x2, x3⟩ := id hW
 subst e1 e2
 have ho := nz.o
 obtain ⟨v, lv, hbd⟩ : ∃ v lv, b.dec = v ++ [lv] := by
  rcases List.eq_nil_or_concat b.dec with h | ⟨i, q, h⟩
  · exact absurd h hdn
  · exact ⟨i, q, by rw [h, List.concat_eq_append]⟩
 rw [hbd] at hde
 obtain ⟨init, q, hq, h1, h2⟩ := hde.unsnoc
 have hql : q.2.1.size < 900 := by
  have e := h2.length
  rw [Array.length_toList] at e
  have := hlz lv (by rw [hbd]; simp)
  lia
 have U := fun its' n' => (Wn.upDec (C := 150) hq its' n').app rest
 refine wpAny_Expr_any ?_ (by show (scope.kind == .module && (scope.more.any _)) = false; rw [hk]; rfl) (by rfl)
 refine methodCall_S rfl rfl hline (Subscript_ (Attribute_Name_ (ld S.F m1 ?_ hk l1)))
 refine attrN S C.X rfl ho (by k_is) (by k_is) (by k_is) (by k_is) a.dst rfl (fun s S => ?_)
 refine minus1 S (fun tt s S => ?_)
 refine lastS (l := init.map fun q => .ref q.1) (x := .ref q.1) (n := σ.nst) S (by
  have e : (σ.dec.map fun q => Value.ref q.1) = (init.map fun q => Value.ref q.1) ++ [.ref q.1] := by rw [hq]; simp
  rw [← e]; exact (List.Mem.tail _ (List.Mem.tail _ (List.Mem.tail _ (List.Mem.head _))))) ?_
 intro pl
 refine appM S (U q.2.1 q.2.2).mem ?_
 refine callWith_method1 ?_ rfl
 refine spliced_more (Tuple_ ?_) rfl
 refine spliced_more (ld S.F m2 ?_ hk l2) rfl
 refine spliced_more (ld S.F m3 ?_ hk l3) rfl
 refine spliced_none ?_
 refine tupS S (fun ta s S => ?_)
 refine spliced_none ?_
 refine appendS S (Up.tail (U (q.2.1.push (.ref ta)) (q.2.2 + 1))) (fun s S => ?_) (by rw [PySem.sizeLine_eq]; lia)
 refine h { σ with dec := init ++ [(q.1, q.2.1.push (.ref ta), q.2.2 + 1)], tus := (ta, tupO #[.str uri tu, .str p tp]) :: σ.tus } _ ⟨rfl, by rw [hq]; simp⟩ (hW.addDec (ta := ta) (u := uri) (p := p) (t1 := tu) (t2 := tp) (n' := q.2.2 + 1) hq hbd h1 h2) ?_
 exact S.perm (Wn.addTu (σ := { σ with dec := init ++ [(q.1, q.2.1.push (.ref ta), q.2.2 + 1)] }) _)
theorem liOf_sz {l : List (Addr × Array Value × Nat)} {v : List Lvl} {tus : List Cell} (h : Lvs tus l v) (hz : ∀ y ∈ v, y.length < 900) : ∀ p ∈ liOf l, (p.2.size : Int) < 2 ^ 63 := by
 induction h with
 | nil => intro p hp; cases hp
 | @cons q ps r lr x _ ih =>
  intro p hp
  rcases List.mem_cons.mp hp with rfl | hp
  · have := x.length
    have h2 := hz ps (.head _)
    rw [Array.length_toList] at this
    show ((q.2.1.size : Nat) : Int) < 2 ^ 63
    lia
  · exact ih (fun y hy => hz y (.tail _ hy)) p hp
theorem two_of {P : Prop} {l : List (Str × Tok)} {x y : Str} (e : l.map (·.1) = [x, y]) (k : ∀ t1 t2, l = [(x, t1), (y, t2)] → P) : P := by
 cases l with
 | nil => cases e
 | cons p l =>
  cases l with
  | nil => cases e
  | cons q l =>
   cases l with
   | nil =>
    cases e
    exact k _ _ rfl
   | cons _ _ => cases e
set_option maxHeartbeats 4000000 in
theorem qname_spec {q uri tag : Str} {t₀ : Tok} (C : Cx (hd.heap_1 w.params) B) (hroom : A.depth + 2 < recursionLimit) (hh : A.handled = none) (S : St B os G L m (σ.cells 150 ++ rest) s) (hW : WIs progN w c x pl b σ) (hq : NmOk q uri tag) (hdz : (outsA b.dec).length < 900) (hlz : ∀ v ∈ b.dec, v.length < 900) (hpo : PrOk (outsA b.dec)) (hpn2 : PrOk (outsA b.nss)) (hdn : b.dec ≠ []) (hpm2 : PrOkS (b.pmap.map (·.2))) (hpz : b.pmap.length < 100) (hlz2 : ∀ v ∈ b.nss, v.length < 900) (hok : qnA c b uri tag ≠ none)
 (k : ∀ y b' σ' G' a t1 t2 t3 s', Kin σ σ' → qnA c b uri tag = some (y, b') → WIs progN w c x pl b' σ' → St B os G' L m ((a, tupO #[.str y t1, .str tag t2, .str uri t3]) :: (σ'.cells 150 ++ rest)) s' → R (.ok (.ret (.ref a))) s') :
 codeAny (model progN w) A (.call (.ref 90) ⟨[.ref x, .str q t₀], []⟩) R s := by
 obtain ⟨⟨am, nz, a⟩, e1, e2, hda, hou, hde, hns, hpm, hps, hpn, x1, x2, x3⟩ := id hW
 have ho := nz.o
 subst e1 e2
 refine' call_fn (K := hd.heap_1 w.params) (binds := [((ofString "self"), .ref σ.x), ((ofString "qname"), .str q t₀), ((ofString "uri"), .none)]) S C.X C.lim ?ho ?hcd ?hroom ?hbind ?hloc (fun L' oL s fc_ S => ?_) ?hco ?hgen ?hk ?hcell
 case ho => k_is
 case hcd => k_is
 case hco => rfl
 case hgen => rfl
 case hk => rfl
 case hcell => decide
 case hroom => first | lia | (simp only [depth_deeper]; lia) | (simp only [depth_deeper, depth_in1]; lia)
 case hbind => exact BindsTo.of_defaults (T := 83) rfl (S.X C.X _ _ (by k_is)) rfl rfl rfl
 case hloc => exact locs rfl
 refine wabs (fun Q0 E0 hQ0 => ?_)
 have S : St B os G L' _ ((L, oL) :: (σ.cells 150 ++ rest)) s := S
 refine wpAny_execs_cons (wpAny_If ?_)
 refine wpAny_isTrue_Compare1 (ld S.F (by rfl) (wpAny_Constant_none (wpAny_is_plain rfl (wpAny_truthy_bool ?_))))
 show wpAny _ _ (execs _ _) _ _ _
 refine stmt_cut2 (fun s => ∃ m' tu tg, St B os G L' m' ((L, oL) :: (σ.cells 150 ++ rest)) s ∧ m' (ofString "self") = some (.ref σ.x) ∧ m' (ofString "uri") = some (.str uri tu) ∧ m' (ofString "tag") = some (.str tag tg)) ?_ ?_
 · intro Qc hQc
   refine Assign_Tuple (wpAny_IfExp ?_)
   refine headTest S (by rfl) (by rw [PySem.sizeLine_eq]; have := hq.len; lia) (fun s S => ?_)
   rcases hq.cut with ⟨h1, h2⟩ | ⟨h1, rfl, rfl⟩
   · rw [h1, if_pos rfl]
     refine methodCall_S rfl rfl rfl (from1 S (by rfl) (by rw [PySem.sizeLine_eq]; have := hq.len; lia) (fun t' s S => ?_))
     intro pl
     refine GM.rsplit ?_
     refine callWith_method1 ?_ rfl
     refine spliced_more (wpAny_Constant_str (spliced_more (wpAny_Constant_int (spliced_none ?_))))
     have S := S.tk (t := s.toks + 1 + 1)
     refine rsplit2S S (by decide) (by decide) (by have := tailS_len q; have := hq.len; lia) (fun l a s e S => ?_)
     rw [h2] at e
     refine two_of e (fun t1 t2 el => ?_)
     · rw [el] at S
       refine unpackL2 S hh (.head _) (fun s S => ?_)
       exact hQc _ ⟨_, t1, t2, S.drop (List.sublist_cons_self _ _), by rfl, by rfl, by rfl⟩
   · rw [h1, if_neg (by decide)]
     refine Tuple_ (spliced_more (wpAny_Constant_str ?_))
     refine spliced_more (ld S.F (by rfl) ?_)
     refine spliced_none ?_
     refine tupS S.tk (fun ta s S => ?_)
     refine unpack2S S hh (.head _) (fun s S => ?_)
     exact hQc _ ⟨_, _, _, S.drop (List.sublist_cons_self _ _), by rfl, by rfl, by rfl⟩
 · rintro s ⟨m0, tu, tg, S, m1, m2, m3⟩
   refine wpAny_execs_nil ?_
   refine wpAny_execs_cons (wpAny_Assign_Name ?_)
   refine wpAny_Call_ofName (bltS C S (by k_is) PyProof.Rows.boot_set (by decide) ?_)
   refine PyProof.Rows.callWith_type0 ?_
   refine setNewS S (fun ps ops s hps' S => ?_)
   refine stS S (fun s S => ?_)
   obtain ⟨m4, S, m1, m2, m3, m5⟩ : ∃ m4, St B os G L' m4 ((ps, ops) :: (L, oL) :: (σ.cells 150 ++ rest)) s ∧ m4 (ofString "self") = some (.ref σ.x) ∧ m4 (ofString "uri") = some (.str uri tu) ∧ m4 (ofString "tag") = some (.str tag tg) ∧ m4 (ofString "prefixes_seen") = some (.ref ps) := ⟨_, S, put_ne m1 (by decide), put_ne m2 (by decide), put_ne m3 (by decide), put_eq⟩
   refine wpAny_execs_cons (wpAny_For ?_)
   refine methodCall_S rfl rfl rfl (ld S.F m1 ?_)
   intro pl
   refine methS S C.X (.tail _ (.tail _ (.head _))) (.tail _ (.tail _ (.tail _ (.head _)))) ho (by k_is) (by k_is) (by k_is) a.m1 ?_
   refine callWith_K (K := hd.heap_1 w.params) C.X (by k_is) ?_
   refine spliced_more (Attribute_Name_ (ld S.F m1 ?_))
   refine attrS S C.X (.tail _ (.tail _ (.head _))) (.tail _ (.tail _ (.tail _ (.head _)))) ho (by k_is) (by k_is) (by k_is) (by k_is) a.dst rfl (fun s S => ?_)
   refine spliced_none ⟨S.X C.X, ?_⟩
   refine wpAny_call ?_
   show codeAny _ _ (.call (.ref 75) ⟨[.ref σ.x, .ref σ.st], []⟩) _ _
   refine' call_gen (K := hd.heap_1 w.params) (binds := [((ofString "self"), .ref σ.x), ((ofString "ns_stack"), .ref σ.st), ((ofString "_reversed"), .type "reversed")]) S C.X C.lim ?ho ?hcd ?hroom ?hbind ?hloc (fun Lg oLg ga tg1 tg2 s hLg S => ?_) ?hco ?hgen ?hk ?hcell
   case ho => k_is
   case hcd => k_is
   case hco => rfl
   case hgen => rfl
   case hk => rfl
   case hcell => decide
   case hroom => first | lia | (simp only [depth_deeper]; lia) | (simp only [depth_deeper, depth_in1]; lia)
   case hbind => exact BindsTo.of_defaults (T := 68) rfl (S.X C.X _ _ (by k_is)) rfl rfl rfl
   case hloc => exact locs rfl
   show wpAny _ _ (pyIter (.ref ga)) _ _ _
   refine wpAny_pyIter_gen (g := G.size) ⟨_, _, _, S.get (.tail _ (.head _)), rfl, rfl, rfl⟩ ?_
   have hxs := hde.outs
   have hxl := hxs.length
   have tum : ∀ p ∈ σ.tus, p ∈ (L, oL) :: (σ.cells 150 ++ rest) := fun p hp => .tail _ (List.mem_append_left _ (Wn.tu hp))
   refine qloop (gc := [(Lg, oLg)]) (rest := (L, oL) :: (σ.cells 150 ++ rest)) (uri := uri) (pp := outsA b.dec) (k := 0) (T := fun _ => false) hh C.lim (by first | exact dp0 hroom | exact dp hroom) S rfl rfl rfl ((Wn.stkD hde).mono fun p hp => .tail _ (List.mem_append_left _ hp)) (liOf_sz hde hlz) (GenAt.of_push S hLg (by rfl) (by rfl)) hps' (by rw [hxl]; show 0 + _ + 1 < 4096; lia) (hxs.mono tum) m2 m5 ?fin ?found rfl rfl rfl rfl rfl rfl
   case found =>
    intro p G' gc' m' ops' tp s hf hp' hm' S
    have hp2 := let ⟨q', hq', e'⟩ := findP_mem hf; e' ▸ hpo q' hq'
    refine wpAny_execs_cons (wpAny_Return_some (tup3S S hp' ((hm' _ (by decide) (by decide)).trans m3) ((hm' _ (by decide) (by decide)).trans m2) (by have := hp2.2; lia) (by have := hq.tt; lia) hp2.1 (fun ta tt s S => ?_) rfl rfl rfl rfl))
    refine ⟨_, rfl, ?_⟩
    have S1 : St B os G' L' m' ([(ta, tupO #[.str (colon p tag) tt, .str tag tg, .str uri tu])] ++ ([(L, oL)] ++ (σ.cells 150 ++ rest))) s := S.drop (List.Sublist.cons_cons _ ((List.Sublist.cons _ (List.Sublist.cons _ (List.Sublist.refl _))).trans (List.sublist_append_right _ _)))
    refine hQ0 _ _ ?_
    exact k _ b σ G' ta _ _ _ s Kin.refl (by rw [qnA, hf]) hW (St.back S1.swap fc_)
   case fin =>
    intro G' m' ops' T' k' s hf S hT hsub hm
    show wpAny _ _ (execs _ _) _ _ _
    have S : St B os G' L' m' ((ps, ops') :: (L, oL) :: (σ.cells 150 ++ rest)) s := S.drop (List.sublist_cons_self _ _)
    have m1 := (hm (ofString "self") (by decide) (by decide)).trans m1
    have m2 := (hm (ofString "uri") (by decide) (by decide)).trans m2
    have m3 := (hm (ofString "tag") (by decide) (by decide)).trans m3
    have m5 := (hm (ofString "prefixes_seen") (by decide) (by decide)).trans m5
    obtain ⟨v, lv, hbd⟩ : ∃ v lv, b.dec = v ++ [lv] := by
     rcases List.eq_nil_or_concat b.dec with h | ⟨i, q, h⟩
     · exact absurd h hdn
     · exact ⟨i, q, by rw [h, List.concat_eq_append]⟩
    refine wpAny_execs_cons (wpAny_If (wpAny_isTrue_value (Attribute_Name_ (ld S.F m1 ?_))))
    refine attrS S C.X (.tail _ (.tail _ (.head _))) (.tail _ (.tail _ (.tail _ (.head _)))) ho (by k_is) (by k_is) (by k_is) (by k_is) a.rew rfl (fun s S => ?_)
    refine wpAny_truthy_bool ?_
    cases hrw : c.rw with
    | true =>
     rw [if_pos rfl]
     obtain ⟨kvs, hD, hkv⟩ := hpm
     have S : St B os G' L' m' ((L, oL) :: (σ.cells 150 ++ rest)) s := S.drop (List.sublist_cons_self _ _)
     refine stmt_cut2 (fun s => ∃ m6 tp p b1 σ1, Kin σ σ1 ∧ St B os G' L' m6 ((L, oL) :: (σ1.cells 150 ++ rest)) s ∧ WIs progN w c σ.x σ.pl b1 σ1 ∧ b1.dec = b.dec ∧ m6 (ofString "self") = some (.ref σ.x) ∧ m6 (ofString "uri") = some (.str uri tu) ∧ m6 (ofString "tag") = some (.str tag tg) ∧ m6 (ofString "prefix") = some (.str p tp) ∧ p.length ≤ 900 ∧ p ≠ Str.empty ∧ qnA c b uri tag = some (colon p tag, { b1 with dec := addLast b.dec (uri, p) })) ?_ ?_
     · intro Qc hQc
       refine wpAny_If (wpAny_isTrue_Compare1 (ld S.F m2 (Attribute_Name_ (ld S.F m1 ?_))))
       refine attrS S C.X (.tail _ (.head _)) (.tail _ (.tail _ (.head _))) ho (by k_is) (by k_is) (by k_is) (by k_is) a.pma rfl (fun s S => ?_)
       have hmem : (σ.pm, σ.opm) ∈ (L, oL) :: (σ.cells 150 ++ rest) := (List.Mem.tail _ (List.Mem.tail _ (List.Mem.tail _ (List.Mem.tail _ (List.Mem.tail _ (List.Mem.tail _ (List.Mem.tail _ (List.Mem.head _))))))))
       refine inD S hmem hD hpn (fun s S => wpAny_truthy_bool ?_)
       rcases valP (uri := uri) (kvs := kvs) with ⟨p, tp, v1, v2⟩ | ⟨v1, v2⟩
       · rw [v2]
         refine ifT rfl (wpAny_execs_cons (wpAny_Assign_Name (Subscript_ (Attribute_Name_ (ld S.F m1 ?_)))))
         refine attrS S C.X (.tail _ (.head _)) (.tail _ (.tail _ (.head _))) ho (by k_is) (by k_is) (by k_is) (by k_is) a.pma rfl (fun s S => ?_)
         refine ld S.F m2 ?_
         refine dictItemA S hmem hD v2 (fun s S => ?_)
         refine stS S (fun s S => wpAny_execs_nil (hQc _ ⟨_, tp, p, b, σ, Kin.refl, S, hW, rfl, put_ne m1 (by decide), put_ne m2 (by decide), put_ne m3 (by decide), put_eq, (hpm2 p (firstP_mem (by rw [← hkv]; exact v1))).2, (hpm2 p (firstP_mem (by rw [← hkv]; exact v1))).1, ?_⟩))
         rw [qnA, hf, hrw, if_pos rfl, ← hkv, v1]
       · rw [v2]
         refine ifF rfl (wpAny_execs_cons (wpAny_Assign_two ?_))
         have z0 : Str.empty.length = 0 := by decide
         have z1 : (ofString "n").length = 1 := by decide
         have hlen : (tkv kvs).length = b.pmap.length := by rw [← hkv]; simp
         refine JoinedStr_many (joinParts_cons (wpAny_Constant_str ⟨by decide, joinParts_cons (FormattedValue_plain ?_)⟩))
         have S := S.tk (t := s.toks + 1)
         refine wpAny_Call_ofName (bltS C S (by k_is) (v := .builtin "len") (by decide +kernel) (by decide) ?_)
         refine PyProof.Rows.callWith_builtin1 (spliced_more (Attribute_Name_ (ld S.F m1 ?_)))
         refine attrS S C.X (.tail _ (.head _)) (.tail _ (.tail _ (.head _))) ho (by k_is) (by k_is) (by k_is) (by k_is) a.pma rfl (fun s S => spliced_none ?_)
         refine lenD S hmem hD hpn (by rw [hlen]; lia) (fun tl s S => ?_)
         rw [hlen]
         refine formatField_int_small (by rw [Int.natAbs_natCast]; exact Nat.lt_of_le_of_lt (Nat.log2_le_self _) (by lia)) ⟨?_, joinParts_nil ?_ ?_⟩
         · have := intText_len b.pmap.length (by lia)
           rw [PySem.sizeLine_eq, len_app, len_app]
           lia
         · have hnp : nPre b = Str.empty ++ (ofString "n") ++ Str.ofString (toString (b.pmap.length : Int)) := rfl
           rw [← hnp]
           have S := S.tk (t := s.toks + 1 + 1 + 1)
           refine wpAny_assign_Name (stS S (fun s S => ?_))
           refine assignSub (Attribute_Name_ (ld S.F (put_ne m1 (by decide)) ?_))
           refine attrS S C.X (.tail _ (.head _)) (.tail _ (.tail _ (.head _))) ho (by k_is) (by k_is) (by k_is) (by k_is) a.pma rfl (fun s S => ?_)
           refine ld S.F (put_ne m2 (by decide)) ?_
           refine setItemD (news' := fun o' => (L, oL) :: ({ σ with opm := o' }.cells 150 ++ rest)) S (fun o' => (Up.tail (Up.tail (Up.tail (Up.tail (Up.tail (Up.tail (Up.tail Up.head)))))))) hD (by rw [hlen]; lia) (fun o' s hD' S => wpAny_execs_nil ?_)
           refine hQc _ ⟨_, _, nPre b, { b with pmap := b.pmap ++ [(uri, nPre b)] }, { σ with opm := o' }, ⟨rfl, rfl⟩, S, ?_, rfl, put_ne m1 (by decide), put_ne m2 (by decide), put_ne m3 (by decide), put_eq, ?_, ?_, ?_⟩
           · refine ⟨⟨am, nz, a.same ⟨rfl, rfl, rfl, rfl, rfl, rfl, rfl, rfl, rfl⟩⟩, rfl, rfl, hda, hou, hde, hns, ?_, hps, hpn, x1, x2, x3⟩
             obtain ⟨kvs', h1, h2⟩ := pm_new v2 hD'
             exact ⟨kvs', h1, by rw [h2, hkv]⟩
           · exact nPre_len (by lia)
           · exact nPre_ne
           · rw [qnA, hf, hrw, if_pos rfl, ← hkv, v1]
         · have := intText_len b.pmap.length (by lia)
           rw [PySem.sizeLine_eq, len_app, len_app]
           lia
     · rintro s ⟨m6, tp, p, b1, σ1, kin1, S, hW1, hbd1, n1, n2, n3, n4, hpl, hpe, hqn⟩
       have S : St B os G' L' m6 (σ1.cells 150 ++ ((L, oL) :: rest)) s := S.sink
       refine wpAny_execs_cons (declStmt C S hW1 (by rw [hbd1]; exact hdn) (by rw [hbd1]; exact hlz) n1 n2 n4 rfl rfl rfl rfl rfl (fun σ2 s kin2 hW2 S => ?_))
       refine wpAny_execs_cons (wpAny_Return_some (Tuple_ (spliced_more (colonS S n4 n3 (by lia) (by have := hq.tt; lia) (fun t s S => ?_) rfl rfl rfl))))
       refine spliced_more (ld S.F n3 ?_)
       refine spliced_more (ld S.F n2 ?_)
       refine spliced_none (tupS S (fun ta s S => ?_))
       rw [hbd1] at hW2
       have S1 : St B os G' L' m6 ((L, oL) :: ((ta, tupO #[.str (colon p tag) t, .str tag tg, .str uri tu]) :: (σ2.cells 150 ++ rest))) s := S.perm ((List.Perm.cons _ List.perm_middle).trans (List.Perm.swap ..))
       refine hQ0 _ _ ?_
       exact k _ _ σ2 G' ta _ _ _ s (kin1.trans kin2) hqn hW2 (St.back S1 fc_)
    | false =>
     rw [if_neg (by decide)]
     refine wpAny_execs_nil ?_
     refine wpAny_execs_cons (wpAny_If (wpAny_isTrue_BoolOp (wpAny_allTrue_And_cons ?_)))
     refine wpAny_isTrue_Not (wpAny_isTrue_value (ld S.F m2 ?_))
     refine PySem.P.truthy_str (by have := hq.ut; lia) ?_
     have S := S.tk (t := s.toks + 1 + 1)
     by_cases hu : uri = (ofString "")
     · subst hu
       rw [if_pos (by decide)]
       refine wpAny_allTrue_And_cons (wpAny_isTrue_Compare1 (wpAny_Constant_str (ld S.F m5 ?_)))
       refine notInS S.tk (.head _) hT (fun s S => wpAny_truthy_bool ?_)
       have hT0 : T' (ofString "") = false := by
        cases q : T' (ofString "") with
        | false => rfl
        | true =>
         rcases hsub _ q with h | ⟨p, hp, e⟩
         · cases h
         · exact absurd e (hpo p hp).1
       rw [hT0, if_pos (by decide)]
       refine wpAny_allTrue_And_nil ?_
       rw [if_pos (by decide)]
       refine wpAny_execs_cons (wpAny_Return_some (Tuple_ ?_))
       refine spliced_more (ld S.F m3 ?_)
       refine spliced_more (ld S.F m3 ?_)
       refine spliced_more (ld S.F m2 ?_)
       refine spliced_none (tupS S (fun ta s S => ?_))
       have S1 : St B os G' L' m' ([(ta, tupO #[.str tag tg, .str tag tg, .str (ofString "") tu])] ++ ([(L, oL)] ++ (σ.cells 150 ++ rest))) s := S.drop (List.Sublist.cons_cons _ (List.Sublist.cons _ (List.Sublist.refl _)))
       refine hQ0 _ _ ?_
       exact k _ b σ G' ta _ _ _ s Kin.refl (by rw [qnA, hf, hrw, if_neg (by decide), if_pos rfl]) hW (St.back S1.swap fc_)
     · have hul : uri.length ≠ 0 := fun e => hu (str_len0'.mp e)
       rw [if_neg (by simpa using hul)]
       rw [if_neg (by decide)]
       refine wpAny_execs_nil ?_
       have S : St B os G' L' m' ((L, oL) :: (σ.cells 150 ++ rest)) _ := S.drop (List.sublist_cons_self _ _)
       refine wpAny_execs_cons (wpAny_For ?_)
       refine methodCall_S rfl rfl rfl (ld S.F m1 ?_)
       intro pl
       refine methS S C.X (List.Mem.tail _ (List.Mem.head _)) (List.Mem.tail _ (List.Mem.tail _ (List.Mem.head _))) ho (by k_is) (by k_is) (by k_is) a.m1 ?_
       refine callWith_K (K := hd.heap_1 w.params) C.X (by k_is) ?_
       refine spliced_more (Attribute_Name_ (ld S.F m1 ?_))
       refine attrS S C.X (List.Mem.tail _ (List.Mem.head _)) (List.Mem.tail _ (List.Mem.tail _ (List.Mem.head _))) ho (by k_is) (by k_is) (by k_is) (by k_is) a.nss rfl (fun s S => ?_)
       refine spliced_none ⟨S.X C.X, ?_⟩
       refine wpAny_call ?_
       show codeAny _ _ (.call (.ref 75) ⟨[.ref σ.x, .ref σ.ns], []⟩) _ _
       clear hLg
       refine' call_gen (K := hd.heap_1 w.params) (binds := [((ofString "self"), .ref σ.x), ((ofString "ns_stack"), .ref σ.ns), ((ofString "_reversed"), .type "reversed")]) S C.X C.lim ?ho ?hcd ?hroom ?hbind ?hloc (fun Lg oLg ga tg1 tg2 s hLg S => ?_) ?hco ?hgen ?hk ?hcell
       case ho => k_is
       case hcd => k_is
       case hco => rfl
       case hgen => rfl
       case hk => rfl
       case hcell => decide
       case hroom => first | lia | (simp only [depth_deeper]; lia) | (simp only [depth_deeper, depth_in1]; lia)
       case hbind => exact BindsTo.of_defaults (T := 68) rfl (S.X C.X _ _ (by k_is)) rfl rfl rfl
       case hloc => exact locs rfl
       show wpAny _ _ (pyIter (.ref ga)) _ _ _
       refine wpAny_pyIter_gen (g := G'.size) ⟨_, _, _, S.get (.tail _ (.head _)), rfl, rfl, rfl⟩ ?_
       refine qloop2 (gc := [(Lg, oLg)]) (rest := (L, oL) :: (σ.cells 150 ++ rest)) (uri := uri) (pp := outsA b.nss) hh C.lim (by first | exact dp0 hroom | exact dp hroom) S rfl rfl rfl ((Wn.stkN hns).mono fun p hp => .tail _ (List.mem_append_left _ hp)) (liOf_sz hns hlz2) (GenAt.of_push S hLg (by rfl) (by rfl)) (hns.outs.mono tum) m2 ?fin2 ?found2 rfl rfl rfl rfl
       case fin2 =>
        intro G2 m2' s' hf2 _ _
        exact absurd (by rw [qnA, hf, hrw, if_neg (by decide), if_neg hu, hf2]) hok
       case found2 =>
        intro p G2 gc2 m7 tp s hf2 hp7 hm7 S
        obtain ⟨pq, hpq, epq⟩ := List.mem_map.mp (firstP_mem hf2)
        have hp2 := epq ▸ hpn2 pq hpq
        have n1 := (hm7 (ofString "self") (by decide) (by decide)).trans m1
        have n2 := (hm7 (ofString "uri") (by decide) (by decide)).trans m2
        have n3 := (hm7 (ofString "tag") (by decide) (by decide)).trans m3
        have S : St B os G2 L' m7 ((L, oL) :: (σ.cells 150 ++ rest)) s := S.drop ((List.Sublist.cons _ (List.Sublist.refl _)).trans (List.sublist_append_right _ _))
        have S : St B os G2 L' m7 (σ.cells 150 ++ ((L, oL) :: rest)) s := S.sink
        refine wpAny_execs_cons (declStmt C S hW hdn hlz n1 n2 hp7 rfl rfl rfl rfl rfl (fun σ2 s kin2 hW2 S => ?_))
        refine wpAny_execs_cons (wpAny_Return_some (tup3S S hp7 n3 n2 (by have := hp2.2; lia) (by have := hq.tt; lia) hp2.1 (fun ta tt s S => ?_) rfl rfl rfl rfl))
        refine ⟨_, rfl, ?_⟩
        have S1 : St B os G2 L' m7 ((L, oL) :: ((ta, tupO #[.str (colon p tag) tt, .str tag tg, .str uri tu]) :: (σ2.cells 150 ++ rest))) s := S.perm ((List.Perm.cons _ List.perm_middle).trans (List.Perm.swap ..))
        refine hQ0 _ _ ?_
        exact k _ _ σ2 G2 ta _ _ _ s kin2 (by rw [qnA, hf, hrw, if_neg (by decide), if_neg hu, hf2]) hW2 (St.back S1 fc_)
end
noncomputable def esc1 (c r x : Str) : Str := if Txt.contains x c = true then Txt.replace x c r else x
theorem replace_length (x y z : Str) : (Txt.replace x y z).length ≤ x.length + (x.length + 1) * z.length := by
 unfold Txt.replace
 split
 · exact Nat.le_add_right _ _
 · have h1 := StrLaws.occ_length_le x y 0 x.length (x.length + 1)
   have hy : (Builtin.Str.glued y (Builtin.Str.partsBetween x (Builtin.Str.occurrences x y 0 x.length (x.length + 1)) y.length)).length = x.length := by rw [StrLaws.glued_between_self]
   rw [size_glued, length_partsBetween, Nat.add_sub_cancel] at hy
   rw [size_glued, length_partsBetween, Nat.add_sub_cancel]
   have h2 : (Builtin.Str.occurrences x y 0 x.length (x.length + 1)).length * z.length ≤ (x.length + 1) * z.length := Nat.mul_le_mul_right _ h1
   lia
theorem esc1_length {c r x : Str} {a b : Nat} (h : x.length ≤ a) (hr : r.length ≤ b) : (esc1 c r x).length ≤ a + (a + 1) * b := by
 unfold esc1
 split
 · refine Nat.le_trans (replace_length x c r) ?_
   have : (x.length + 1) * r.length ≤ (a + 1) * b := Nat.mul_le_mul (by lia) hr
   lia
 · lia
section
variable {prog : Program} {w : World} {A : Around} {E : Value → Shared → Prop} {s s' : Shared} {B : Heap} {os : OsState} {G : Array GenState} {L : Addr} {m : Str → Option Value} {news : List Cell}
theorem esc_stage {c r x : Str} {t : Tok} {a : Nat} {p1 p2 p3 p4 p5 p6 p7 p8 p9 p10 p11 : Pos} {k1 k2 k3 : Nat} {qual : Str} {scope : Scope} {f : Addr} {cd : Value} {Q : Flow → Shared → Prop} (S : St B os G L m news s) (hm : m (txt "text") = some (.str x t)) (hx : x.length ≤ a) (hb : a + (a + 1) * r.length ≤ 16777216) (hcr : (c == r) = false)
 (k : ∀ t' s' m', m' (txt "text") = some (.str (esc1 c r x) t') → St B os G L m' news s' → Q .next s')
 (hline : (p6.endLine == p9.line) = true) (hkd : scope.kind = .function) (hl : (envOf qual scope L f cd).kindOf (txt "text") = some .local) :
 wpAny (model prog w) A (exec (.If (.Compare (.Constant (.str c) k1 p1) [.In] [.Name (txt "text") p2] p3) [.Assign [.Name (txt "text") p4] (.Call (.Attribute (.Name (txt "text") p5) (txt "replace") p6) [.Constant (.str c) k2 p7, .Constant (.str r) k3 p8] [] p9) p10] [] p11) (envOf qual scope L f cd)) Q E s := by
 refine wpAny_If (wpAny_isTrue_Compare1 (wpAny_Constant_str (ld S.F hm ?_ hkd hl)) (by rfl))
 refine SB.contains (wpAny_truthy_bool ?_)
 cases hc : Txt.contains x c with
 | false =>
  rw [if_false' rfl]
  refine wpAny_execs_nil (k t _ m ?_ S.tk)
  rw [esc1, hc, if_neg (by decide)]; exact hm
 | true =>
  rw [if_true' rfl]
  refine wpAny_execs_cons (wpAny_Assign_Name ?_)
  refine methodCall_S rfl rfl hline (ld (S.tk (t := s.toks + 1)).F hm (fun pl => ?_) hkd hl)
  refine GM.replace ?_
  refine callWith_method1 ?_
  refine spliced_more (wpAny_Constant_str ?_)
  refine spliced_more (wpAny_Constant_str ?_)
  refine spliced_none ?_
  have hxb : x.length + (x.length + 1) * r.length ≤ 16777216 := by
   have : (x.length + 1) * r.length ≤ (a + 1) * r.length := Nat.mul_le_mul_right _ (by lia)
   lia
  refine SC.replace (Nat.succ_ne_zero _) (Nat.succ_ne_zero _) (Nat.ne_of_lt (Nat.lt_succ_self _)) hcr hxb (fun t' kk => ?_)
  refine stS (S.tk) (fun s S => ?_) hkd hl
  refine wpAny_execs_nil (k t' _ _ ?_ S)
  show (if _ then _ else _) = _
  rw [esc1, hc, if_pos rfl, if_pos rfl]
end
section
variable {w : World} {A : Around} {s : Shared} {R : Result → Shared → Prop} {B : Heap} {os : OsState} {G : Array GenState} {L : Addr} {m : Str → Option Value} {news : List Cell} {c : Cfg} {x : Addr}
noncomputable def escT (x : Str) : Str := esc1 (ofString "\r") (ofString "&#xD;") (esc1 (ofString ">") (ofString "&gt;") (esc1 (ofString "<") (ofString "&lt;") (esc1 (ofString "&") (ofString "&amp;") x)))
set_option maxHeartbeats 1000000 in
theorem escape_spec {x : Str} {t : Tok} (hx : x.length ≤ 1000) (C : Cx (hd.heap_1 w.params) B) (hroom : A.depth + 1 < recursionLimit) (S : St B os G L m news s)
 (k : ∀ t' s', St B os G L m news s' → R (.ok (.ret (.str (escT x) t'))) s') : codeAny (model progN w) A (.call (.ref 161) ⟨[.str x t], []⟩) R s := by
 have l1 : (ofString "&amp;").length ≤ 5 := by decide
 have l2 : (ofString "&lt;").length ≤ 4 := by decide
 have l3 : (ofString "&gt;").length ≤ 4 := by decide
 have h1 := esc1_length (c := (ofString "&")) hx l1
 have h2 := esc1_length (c := (ofString "<")) h1 l2
 have h3 := esc1_length (c := (ofString ">")) h2 l3
 refine' call_fn (K := hd.heap_1 w.params) (binds := [((ofString "text"), .str x t)]) S C.X C.lim ?ho ?hcd ?hroom ?hbind ?hloc (fun L' oL s fc_ S => ?_) ?hco ?hgen ?hk ?hcell
 case ho => k_is
 case hcd => k_is
 case hco => rfl
 case hgen => rfl
 case hk => rfl
 case hcell => decide
 case hroom => first | lia | (simp only [depth_deeper]; lia) | (simp only [depth_deeper, depth_in1]; lia)
 case hbind => exact BindsTo.of_eq rfl
 case hloc => exact locs rfl
 refine wpAny_execs_cons (wpAny_Try_except ?_)
 refine wpAny_execs_cons (esc_stage S (by rfl) hx (by decide) (by decide) (fun t1 s m1 e1 S => ?_) rfl rfl rfl)
 refine wpAny_execs_cons (esc_stage S e1 h1 (by decide) (by decide) (fun t2 s m2 e2 S => ?_) rfl rfl rfl)
 refine wpAny_execs_cons (esc_stage S e2 h2 (by decide) (by decide) (fun t3 s m3 e3 S => ?_) rfl rfl rfl)
 refine wpAny_execs_cons (esc_stage S e3 h3 (by decide) (by decide) (fun t4 s m4 e4 S => ?_) rfl rfl rfl)
 refine wpAny_execs_cons (wpAny_Return_some (ld S.F e4 ?_))
 exact k t4 _ (S.back fc_)
noncomputable def escA (x : Str) : Str := esc1 (ofString "\r") (ofString "&#xD;") (esc1 (ofString "\n") (ofString "&#xA;") (esc1 (ofString "\t") (ofString "&#x9;") (esc1 (ofString "\"") (ofString "&quot;") (esc1 (ofString "<") (ofString "&lt;") (esc1 (ofString "&") (ofString "&amp;") x)))))
set_option maxHeartbeats 1000000 in
theorem escapeA_spec {x : Str} {t : Tok} (hx : x.length ≤ 20) (C : Cx (hd.heap_1 w.params) B) (hroom : A.depth + 1 < recursionLimit) (S : St B os G L m news s)
 (k : ∀ t' s', St B os G L m news s' → R (.ok (.ret (.str (escA x) t'))) s') : codeAny (model progN w) A (.call (.ref 168) ⟨[.str x t], []⟩) R s := by
 have l1 : (ofString "&amp;").length ≤ 5 := by decide
 have l2 : (ofString "&lt;").length ≤ 4 := by decide
 have l3 : (ofString "&quot;").length ≤ 6 := by decide
 have l4 : (ofString "&#x9;").length ≤ 5 := by decide
 have l5 : (ofString "&#xA;").length ≤ 5 := by decide
 have h1 := esc1_length (c := (ofString "&")) hx l1
 have h2 := esc1_length (c := (ofString "<")) h1 l2
 have h3 := esc1_length (c := (ofString "\"")) h2 l3
 have h4 := esc1_length (c := (ofString "\t")) h3 l4
 have h5 := esc1_length (c := (ofString "\n")) h4 l5
 refine' call_fn (K := hd.heap_1 w.params) (binds := [((ofString "text"), .str x t)]) S C.X C.lim ?ho ?hcd ?hroom ?hbind ?hloc (fun L' oL s fc_ S => ?_) ?hco ?hgen ?hk ?hcell
 case ho => k_is
 case hcd => k_is
 case hco => rfl
 case hgen => rfl
 case hk => rfl
 case hcell => decide
 case hroom => first | lia | (simp only [depth_deeper]; lia) | (simp only [depth_deeper, depth_in1]; lia)
 case hbind => exact BindsTo.of_eq rfl
 case hloc => exact locs rfl
 refine wpAny_execs_cons (wpAny_Try_except ?_)
 refine wpAny_execs_cons (esc_stage S (by rfl) hx (by decide) (by decide) (fun t1 s m1 e1 S => ?_) rfl rfl rfl)
 refine wpAny_execs_cons (esc_stage S e1 h1 (by decide) (by decide) (fun t2 s m2 e2 S => ?_) rfl rfl rfl)
 refine wpAny_execs_cons (esc_stage S e2 h2 (by decide) (by decide) (fun t3 s m3 e3 S => ?_) rfl rfl rfl)
 refine wpAny_execs_cons (esc_stage S e3 h3 (by decide) (by decide) (fun t4 s m4 e4 S => ?_) rfl rfl rfl)
 refine wpAny_execs_cons (esc_stage S e4 h4 (by decide) (by decide) (fun t5 s m5 e5 S => ?_) rfl rfl rfl)
 refine wpAny_execs_cons (esc_stage S e5 h5 (by decide) (by decide) (fun t6 s m6 e6 S => ?_) rfl rfl rfl)
 refine wpAny_execs_cons (wpAny_Return_some (ld S.F e6 ?_))
 exact k t6 _ (S.back fc_)
end
section
variable {w : World} {A : Around} {s : Shared} {R : Result → Shared → Prop} {B : Heap} {os : OsState} {G : Array GenState} {L : Addr} {m : Str → Option Value} {rest : List Cell} {σ : Wn} {c : Cfg} {x pl : Addr} {b : Ab}
theorem join_le {l : List (Str × Tok)} (h : ((l.map (·.1)).map (·.length)).sum ≤ 1000) : JoinOk (ofString "") (l.map (·.1)) = true ∧ (Txt.join (ofString "") (l.map (·.1))).length ≤ 1000 := by
 have e : (ofString "").length = 0 := by decide
 constructor
 · unfold JoinOk
   rw [StrLaws.joinTotal, e, Nat.mul_zero, Nat.add_zero]
   have : Builtin.Str.tooLong ((l.map (·.1)).map (·.length)).sum = false := by
    unfold Builtin.Str.tooLong
    exact decide_eq_false (by rw [PySem.sizeLine_eq]; lia)
   rw [this]; rfl
 · have h2 := StrLaws.join_length_le (ofString "") (l.map (·.1))
   rw [e, Nat.mul_zero, Nat.add_zero, ← StrLaws.glued_eq_join] at h2
   exact Nat.le_trans h2 h
noncomputable def flTxt (st last : Bool) (d : List Str) : Str := if (st && !last) = true then Txt.strip (Txt.join (ofString "") d) else Txt.join (ofString "") d
noncomputable def flOut (st last : Bool) (d : List Str) : List Str := if flTxt st last d = (ofString "") then [] else [escT (flTxt st last d)]
theorem flTxt_f (p : Bool) (d : List Str) : flTxt false p d = Txt.join (ofString "") d := by rw [flTxt, if_neg (by simp)]
theorem flTxt_t (d : List Str) : flTxt true true d = Txt.join (ofString "") d := by rw [flTxt, if_neg (by simp)]
theorem flTxt_s (d : List Str) : flTxt true false d = Txt.strip (Txt.join (ofString "") d) := by rw [flTxt, if_pos (by simp)]
noncomputable def lastP (b : Ab) : Bool := b.pres.getLastD false
theorem lastP_snoc {b : Ab} {v : List Bool} {q : Bool} (h : b.pres = v ++ [q]) : lastP b = q := by
 unfold lastP
 rw [h]; simp
theorem flTxt_len {st last : Bool} {d : List Str} (h : (Txt.join (ofString "") d).length ≤ 1000) : (flTxt st last d).length ≤ 1000 := by
 unfold flTxt
 split
 · have := fact_strip (Txt.join (ofString "") d)
   lia
 · exact h
noncomputable def total (d : List Str) : Nat := (d.map (·.length)).sum
noncomputable abbrev flushed (c : Cfg) (b : Ab) : Ab := { b with data := [], out := b.out ++ flOut c.st (lastP b) b.data }
set_option maxHeartbeats 2000000 in
theorem flush_good (C : Cx (hd.heap_1 w.params) B) (hroom : A.depth + 3 < recursionLimit) (hh : A.handled = none) (S : St B os G L m (σ.cells 150 ++ rest) s) (hW : WIs progN w c x pl b σ) (hseen : b.seen = true ∨ b.data = [])
 (hln : b.data.length < 1000) (htl : total b.data ≤ 1000) (hout : b.out.length < 10000) (hpr : b.pres ≠ [])
 (k : ∀ σ' s', WIs progN w c x pl (flushed c b) σ' → St B os G L m (σ'.cells 150 ++ rest) s' → R (.ok (.ret .none)) s') :
 codeAny (model progN w) A (.call (.ref 106) ⟨[.ref x], []⟩) R s := by
 obtain ⟨⟨am, nz, a⟩, rfl, rfl, hda, hou, hde, hns, hpm, hps, hpn, x1, x2, x3⟩ := id hW
 obtain ⟨l, hdat, hdl⟩ := hda
 have ho := nz.o
 have htl' : ((l.map (·.1)).map (·.length)).sum ≤ 1000 := by rw [hdl]; exact htl
 have hll : l.length < 1000 := by have := congrArg List.length hdl; simp at this; lia
 refine' call_fn (K := hd.heap_1 w.params) (binds := [((ofString "self"), .ref σ.x), ((ofString "_join_text"), .ref 98)]) S C.X C.lim ?ho ?hcd ?hroom ?hbind ?hloc (fun L' oL s fc_ S => ?_) ?hco ?hgen ?hk ?hcell
 case ho => k_is
 case hcd => k_is
 case hco => rfl
 case hgen => rfl
 case hk => rfl
 case hcell => decide
 case hroom => first | lia | (simp only [depth_deeper]; lia) | (simp only [depth_deeper, depth_in1]; lia)
 case hbind => exact BindsTo.of_defaults (T := 99) rfl (S.X C.X _ _ (by k_is)) rfl rfl rfl
 case hloc => exact locs rfl
 refine wabs (fun Q0 E0 hQ0 => ?_)
 refine wpAny_execs_cons (wpAny_Assign_Name ?_)
 refine wpAny_Call_ofName (ld S.F (by rfl) ?_)
 refine callWith_bmS (fs := #[.builtin "str.join", .str (ofString "") 437]) ?_
 refine spliced_more (Attribute_Name_ (ld S.F (by rfl) ?_))
 refine attrS S C.X (by walk_at "mem") (by walk_at "mem") ho (by k_is) (by k_is) (by k_is) (by k_is) a.data rfl (fun s S => ?_)
 refine spliced_none ⟨S.X C.X _ _ (by k_is), ?_⟩
 obtain ⟨hj, hjl⟩ := join_le htl'
 refine joinS (l := l) (n := σ.nd) S (S.X C.X _ _ (by k_is)) (by rw [← hdat]; exact (List.Mem.tail _ (List.Mem.tail _ (List.Mem.tail _ (List.Mem.head _))))) hj (fun tj s S => ?_)
 refine stS S (fun s S => ?_)
 refine wpAny_execs_cons (wpAny_Delete (deleteOne (wpAny_delete_Subscript (Attribute_Name_ (ld S.F (by rfl) ?_)))))
 refine attrS S C.X (by walk_at "mem") (by walk_at "mem") ho (by k_is) (by k_is) (by k_is) (by k_is) a.data rfl (fun s S => ?_)
 refine sliceS S (fun sl s S => ?_)
 refine delAllS S (List.Mem.head _) (fun n' => (Up.tail (Up.tail (Up.tail (Up.tail Up.head))))) (by rw [PySem.sizeLine_eq, List.size_toArray, hdat]; simp [strValues]; lia) (fun n' s S => ?_)
 have S := S.drop (List.sublist_cons_self _ _)
 have ho := nz.o
 obtain ⟨pv, pb, hpb⟩ : ∃ v q, b.pres = v ++ [q] := by
  rcases List.eq_nil_or_concat b.pres with h | ⟨i, q, h⟩
  · exact absurd h hpr
  · exact ⟨i, q, by rw [h, List.concat_eq_append]⟩
 have hlp := lastP_snoc hpb
 have hpl : σ.psv.map Value.bool = pv.map Value.bool ++ [Value.bool pb] := by rw [hps, hpb]; simp
 refine stmt_cut2 (fun s => ∃ m' t', m' (ofString "self") = some (.ref σ.x) ∧ m' (ofString "data") = some (.str (flTxt c.st (lastP b) b.data) t') ∧ St B os G L' m' ((L, oL) :: ({ σ with data := [], nd := n' }.cells 150 ++ rest)) s) ?_ ?_
 · intro Qc hQc
   refine wpAny_If (wpAny_isTrue_BoolOp (wpAny_allTrue_And_cons ?_))
   refine wpAny_isTrue_value (Attribute_Name_ (ld S.F (by rfl) ?_))
   refine attrS S C.X (by walk_at "mem") (by walk_at "mem") ho (by k_is) (by k_is) (by k_is) (by k_is) a.sp rfl (fun s S => ?_)
   refine wpAny_truthy_bool ?_
   cases hst : c.st with
   | false =>
    refine ifF rfl (ifF rfl (wpAny_execs_nil (hQc _ ⟨_, tj, by rfl, ?_, S⟩)))
    rw [hst, flTxt_f, ← hdl]; exact if_pos rfl
   | true =>
    refine ifT rfl ?_
    refine wpAny_allTrue_And_cons (wpAny_isTrue_Not (wpAny_isTrue_value (Subscript_ (Attribute_Name_ (ld S.F (by rfl) ?_)))))
    refine attrS S C.X (by walk_at "mem") (by walk_at "mem") ho (by k_is) (by k_is) (by k_is) (by k_is) a.psp rfl (fun s S => ?_)
    refine minus1 S (fun tt s S => ?_)
    refine lastS (l := pv.map Value.bool) (x := .bool pb) (n := σ.nps) S (by rw [← hpl]; exact (List.Mem.tail _ (List.Mem.tail _ (List.Mem.tail _ (List.Mem.tail _ (List.Mem.tail _ (List.Mem.tail _ (List.Mem.head _)))))))) ?_
    refine wpAny_truthy_bool ?_
    cases hpb2 : pb with
    | true =>
     refine ifF rfl (ifF rfl (wpAny_execs_nil (hQc _ ⟨_, tj, by rfl, ?_, S⟩)))
     rw [hst, hlp, hpb2, flTxt_t, ← hdl]; exact if_pos rfl
    | false =>
     refine ifT rfl (wpAny_allTrue_And_nil (ifT rfl ?_))
     refine wpAny_execs_cons (wpAny_Assign_Name ?_)
     refine methodCall_KW (ld S.F (by rfl) ?_)
     refine GM.strip ?_
     refine callWith_method0 ?_
     refine SC.strip (fun t' kk => ?_)
     refine stS S.tk (fun s S => ?_)
     refine wpAny_execs_nil (hQc _ ⟨_, t', by rfl, ?_, S⟩)
     rw [hst, hlp, hpb2, flTxt_s, ← hdl]; exact if_pos rfl
 · rintro s ⟨m', t', e1, e2, S⟩
   refine wpAny_execs_cons (wpAny_If (wpAny_isTrue_Compare1 (Attribute_Name_ (ld S.F e1 ?_))))
   refine attrS S C.X (by walk_at "mem") (by walk_at "mem") ho (by k_is) (by k_is) (by k_is) (by k_is) a.pend rfl (fun s S => ?_)
   refine wpAny_Constant_none (wpAny_isNot_plain rfl (wpAny_truthy_bool (ifF rfl (wpAny_execs_nil ?_))))
   refine wpAny_execs_cons (wpAny_If (wpAny_isTrue_BoolOp (wpAny_allTrue_And_cons (wpAny_isTrue_value (ld S.F e2 ?_)))))
   have hsz : (flTxt c.st (lastP b) b.data).length ≤ 1000 := flTxt_len (by rw [← hdl]; exact hjl)
   refine PySem.P.truthy_str (by lia) ?_
   rw [str_len0]
   by_cases he : flTxt c.st (lastP b) b.data = (ofString "")
   · refine ifF (by simp [he]) (ifF rfl (wpAny_execs_nil (wpAny_execs_nil (hQ0 _ _ ?_))))
     refine k { σ with data := [], nd := n' } _ ⟨⟨am, nz, a.same ⟨rfl, rfl, rfl, rfl, rfl, rfl, rfl, rfl, rfl⟩⟩, rfl, rfl, ⟨[], rfl, rfl⟩, ?_, hde, hns, hpm, hps, hpn, x1, x2, x3⟩ (S.tk.back fc_)
     show OutIs σ.out (b.out ++ flOut c.st (lastP b) b.data)
     rw [flOut, if_pos he, List.append_nil]; exact hou
   · refine ifT (by simp [he]) ?_
     have hs2 : b.seen = true := hseen.resolve_right fun e => he (by
      rw [e]
      cases c.st <;> cases lastP b <;> decide +kernel)
     refine wpAny_allTrue_And_cons (wpAny_isTrue_value (Attribute_Name_ (ld S.tk.F e1 ?_)))
     refine attrS S.tk C.X (List.Mem.tail _ (List.Mem.head _)) (List.Mem.tail _ (List.Mem.tail _ (List.Mem.head _))) ho (by k_is) (by k_is) (by k_is) (by k_is) a.seen rfl (fun s S => ?_)
     rw [hs2]
     refine wpAny_truthy_bool (ifT rfl (wpAny_allTrue_And_nil (ifT rfl ?_)))
     refine wpAny_execs_cons (wpAny_Expr_any ?_ (by rfl) (by rfl))
     refine methodCall_KW (ld S.F e1 ?_)
     refine valM S C.X (List.Mem.tail _ (List.Mem.head _)) (List.Mem.tail _ (List.Mem.tail _ (List.Mem.head _))) ho (by k_is) (by k_is) (by k_is) a.write rfl (fun s S => ?_)
     refine callWith_bmS (fs := #[.builtin "list.append", .ref σ.pl]) ?_
     refine spliced_more (wpAny_Call_ofName (globS C S (by k_is) ?_))
     refine callWith_K (K := hd.heap_1 w.params) C.X (by k_is) ?_
     refine spliced_more (ld S.F e2 ?_)
     refine spliced_none ⟨S.X C.X, wpAny_call ?_⟩
     refine escape_spec hsz C (by first | exact dp0 hroom | exact dp hroom) S (fun t4 s S => ?_)
     refine spliced_none ⟨S.get (List.Mem.tail _ (List.Mem.tail _ (List.Mem.tail _ (List.Mem.tail _ (List.Mem.tail _ (List.Mem.tail _ (List.Mem.tail _ (List.Mem.tail _ (List.Mem.head _))))))))), ?_⟩
     refine bmCallL S (List.Mem.tail _ (List.Mem.tail _ (List.Mem.tail _ (List.Mem.tail _ (List.Mem.tail _ (List.Mem.tail _ (List.Mem.tail _ (List.Mem.tail _ (List.Mem.head _))))))))) (Up.tail (Up.tail (Up.tail (Up.tail (Up.tail (Up.tail (Up.tail (Up.tail (Up.tail Up.head))))))))) (fun s S => ?_) (by rw [hou.length]; lia)
     refine wpAny_execs_nil (wpAny_execs_nil (hQ0 _ _ ?_))
     refine k { σ with data := [], nd := n', out := σ.out ++ [.str (escT (flTxt c.st (lastP b) b.data)) t4], npl := σ.npl + 1 } _ ⟨⟨am, nz, a.same ⟨rfl, rfl, rfl, rfl, rfl, rfl, rfl, rfl, rfl⟩⟩, rfl, rfl, ⟨[], rfl, rfl⟩, ?_, hde, hns, hpm, hps, hpn, x1, x2, x3⟩ (S.back fc_)
     show OutIs _ (b.out ++ flOut c.st (lastP b) b.data)
     rw [flOut, if_neg he]; exact hou.snoc _ _
end
section
variable {w : World} {A : Around} {E : Value → Shared → Prop} {s : Shared} {R : Result → Shared → Prop} {B : Heap} {os : OsState} {G : Array GenState} {L : Addr} {m : Str → Option Value} {news rest : List Cell} {σ : Wn} {c : Cfg} {x pl : Addr} {b : Ab}
theorem flOut_nil (st last : Bool) : flOut st last [] = [] := by cases st <;> cases last <;> decide +kernel
theorem flushed_nil {c : Cfg} {b : Ab} (h : b.data = []) : flushed c b = b := by
 obtain ⟨o, d, dc, ns, pm, pr, se, dn, ig⟩ := b
 simp only at h
 subst h
 show (⟨o ++ flOut c.st _ [], [], dc, ns, pm, pr, se, dn, ig⟩ : Ab) = _
 rw [flOut_nil, List.append_nil]
theorem truthy_listN {D : Addr} {l : List Value} {n : Nat} {Q : Bool → Shared → Prop} (S : St B os G L m news s) (hl : (D, listOf l.toArray n) ∈ news) (hz : l.length < 1000000) (h : ∀ s', St B os G L m news s' → Q (!l.isEmpty) s') : wpAny (model progN w) A (truthy (.ref D)) Q E s := by
 refine wpAny_truthy_list (listOf_isList (S.get hl)) (by simp; lia) ?_
 rw [List.isEmpty_toArray]
 exact h _ S.tk
structure Fit (b : Ab) : Prop where
 seen : b.seen = true ∨ b.data = []
 ln : b.data.length < 1000
 tl : total b.data ≤ 1000
 out : b.out.length < 9000
 pr : b.pres ≠ []
theorem flushIf {p1 p2 p3 p4 p5 p6 p7 : Pos} {qual : Str} {scope : Scope} {f : Addr} {cd : Value} {Q : Flow → Shared → Prop} (C : Cx (hd.heap_1 w.params) B) (hroom : A.depth + 3 < recursionLimit) (hh : A.handled = none) (S : St B os G L m (σ.cells 150 ++ rest) s) (hW : WIs progN w c x pl b σ) (hF : Fit b)
 (hm : m (ofString "self") = some (.ref x)) (hsk : scope.kind = .function) (hlk : (envOf qual scope L f cd).kindOf (ofString "self") = some .local) (hline : (p4.endLine == p5.line) = true)
 (k : ∀ σ' s', WIs progN w c x pl (flushed c b) σ' → St B os G L m (σ'.cells 150 ++ rest) s' → Q .next s') :
 wpAny (model progN w) A (exec (.If (.Attribute (.Name (ofString "self") p1) (ofString "_data") p2) [.Expr (.Call (.Attribute (.Name (ofString "self") p3) (ofString "_flush") p4) [] [] p5) p6] [] p7) (envOf qual scope L f cd)) Q E s := by
 obtain ⟨⟨am, nz, a⟩, e1, e2, hda, hou, hde, hns, hpm, hps, hpn, x1, x2, x3⟩ := id hW
 subst e1 e2
 obtain ⟨l, hdat, hdl⟩ := id hda
 have ho := nz.o
 have hll : l.length = b.data.length := by have := congrArg List.length hdl; simpa using this
 have hlz := hF.ln
 refine wpAny_If (wpAny_isTrue_value (Attribute_Name_ (ld S.F hm ?_ hsk hlk)))
 refine attrN S C.X rfl ho (by k_is) (by k_is) (by k_is) (by k_is) a.data rfl (fun s S => ?_)
 refine truthy_listN S (List.Mem.tail _ (List.Mem.tail _ (List.Mem.head _))) (by rw [hdat]; simp [strValues]; lia) (fun s S => ?_)
 cases l with
 | nil =>
  rw [hdat]
  refine ifF rfl (wpAny_execs_nil ?_)
  have hn : b.data = [] := by rw [← hdl]; rfl
  exact k σ _ (by rw [flushed_nil hn]; exact hW) S
 | cons q r =>
  rw [hdat]
  refine ifT rfl ?_
  refine wpAny_execs_cons (wpAny_Expr_any ?_ (by show (scope.kind == .module && (scope.more.any _)) = false; rw [hsk]; rfl) (by rfl))
  refine methodCall_S rfl rfl hline (ld S.F hm (fun pl => ?_) hsk hlk)
  refine methN S C.X rfl ho (by k_is) (by k_is) (by k_is) a.m3 ?_
  refine callWith_K0 (K := hd.heap_1 w.params) (S.X C.X) (by k_is) ?_
  refine wpAny_call ?_
  show codeAny _ _ (.call (.ref 106) ⟨[.ref σ.x], []⟩) _ _
  exact flush_good C hroom hh S hW hF.seen hF.ln hF.tl (by have := hF.out; lia) hF.pr (fun σ' s' hW' S' => wpAny_execs_nil (k σ' s' hW' S'))
set_option maxHeartbeats 1000000 in
theorem data_spec {v : Str} {t : Tok} (C : Cx (hd.heap_1 w.params) B) (hroom : A.depth + 1 < recursionLimit) (S : St B os G L m (σ.cells 150 ++ rest) s) (hW : WIs progN w c x pl b σ) (hign : b.ign = 0) (hsz : b.data.length < 1000)
 (k : ∀ σ' s', WIs progN w c x pl { b with data := b.data ++ [v] } σ' → St B os G L m (σ'.cells 150 ++ rest) s' → R (.ok (.ret .none)) s') :
 codeAny (model progN w) A (.call (.ref 97) ⟨[.ref x, .str v t], []⟩) R s := by
 obtain ⟨⟨am, nz, a⟩, rfl, rfl, hda, hou, hde, hns, hpm, hps, hpn, x1, x2, x3⟩ := id hW
 have ho := nz.o
 obtain ⟨ti, ai⟩ := a.ign
 rw [hign] at ai
 refine' call_fn (K := hd.heap_1 w.params) (binds := [((ofString "self"), .ref σ.x), ((ofString "data"), .str v t)]) S C.X C.lim ?ho ?hcd ?hroom ?hbind ?hloc (fun L' oL s fc_ S => ?_) ?hco ?hgen ?hk ?hcell
 case ho => k_is
 case hcd => k_is
 case hco => rfl
 case hgen => rfl
 case hk => rfl
 case hcell => decide
 case hroom => first | lia | (simp only [depth_deeper]; lia) | (simp only [depth_deeper, depth_in1]; lia)
 case hbind => exact BindsTo.of_eq rfl
 case hloc => exact locs rfl
 refine wabs (fun Q0 E0 hQ0 => ?_)
 refine wpAny_execs_cons (wpAny_If (wpAny_isTrue_Not (wpAny_isTrue_value (Attribute_Name_ (ld S.F (by rfl) ?_)))))
 refine attrS S C.X (by walk_at "mem") (by walk_at "mem") ho (by k_is) (by k_is) (by k_is) (by k_is) ai rfl (fun s S => ?_)
 refine PyProof.Rows.truthy_int ?_
 rw [if_true' (by decide)]
 refine wpAny_execs_cons (wpAny_Expr_any ?_ (by rfl) (by rfl))
 refine methodCall_KW (Attribute_Name_ (ld S.F (by rfl) ?_))
 refine attrS S C.X (by walk_at "mem") (by walk_at "mem") ho (by k_is) (by k_is) (by k_is) (by k_is) a.data rfl (fun s S => ?_)
 refine appM S (List.Mem.tail _ (List.Mem.tail _ (List.Mem.tail _ (List.Mem.head _)))) ?_
 refine callWith_method1 ?_ rfl
 refine spliced_more (ld S.F (by rfl) ?_)
 refine spliced_none ?_
 refine appendL S (Up.tail (Up.tail (Up.tail Up.head))) (fun s S => ?_) (by rw [hda.length]; lia)
 refine wpAny_execs_nil ?_
 refine wpAny_execs_nil (hQ0 _ _ ?_)
 exact k { σ with data := σ.data ++ [.str v t], nd := σ.nd + 1 } _ ⟨⟨am, nz, a.same ⟨rfl, rfl, rfl, rfl, rfl, rfl, rfl, rfl, rfl⟩⟩, rfl, rfl, hda.snoc v t, hou, hde, hns, hpm, hps, hpn, x1, x2, x3⟩ (S.back fc_)
set_option maxHeartbeats 1000000 in
theorem sns_spec {p u : Str} {t1 t2 : Tok} (C : Cx (hd.heap_1 w.params) B) (hroom : A.depth + 4 < recursionLimit) (hh : A.handled = none) (S : St B os G L m (σ.cells 150 ++ rest) s) (hW : WIs progN w c x pl b σ) (hign : b.ign = 0) (hF : Fit b) (hnn : b.nss ≠ []) (hlz : ∀ v ∈ b.nss, v.length < 900)
 (k : ∀ σ' s', WIs progN w c x pl { flushed c b with nss := addLast b.nss (u, p) } σ' → St B os G L m (σ'.cells 150 ++ rest) s' → R (.ok (.ret .none)) s') :
 codeAny (model progN w) A (.call (.ref 113) ⟨[.ref x, .str p t1, .str u t2], []⟩) R s := by
 obtain ⟨⟨am, nz, a⟩, e1, e2, _⟩ := id hW
 have ho := nz.o
 obtain ⟨ti, ai⟩ := a.ign
 subst e1 e2
 refine' call_fn (K := hd.heap_1 w.params) (binds := [((ofString "self"), .ref σ.x), ((ofString "prefix"), .str p t1), ((ofString "uri"), .str u t2)]) S C.X C.lim ?ho ?hcd ?hroom ?hbind ?hloc (fun L' oL s fc_ S => ?_) ?hco ?hgen ?hk ?hcell
 case ho => k_is
 case hcd => k_is
 case hco => rfl
 case hgen => rfl
 case hk => rfl
 case hcell => decide
 case hroom => first | lia | (simp only [depth_deeper]; lia) | (simp only [depth_deeper, depth_in1]; lia)
 case hbind => exact BindsTo.of_eq rfl
 case hloc => exact locs rfl
 refine wabs (fun Q0 E0 hQ0 => ?_)
 have S : St B os G L' _ ((L, oL) :: (σ.cells 150 ++ rest)) s := S
 refine wpAny_execs_cons (wpAny_If (wpAny_isTrue_value (Attribute_Name_ (ld S.F (by rfl) ?_))))
 refine attrS S C.X (by walk_at "mem") (by walk_at "mem") ho (by k_is) (by k_is) (by k_is) (by k_is) ai rfl (fun s S => ?_)
 refine PyProof.Rows.truthy_int (ifF (by rw [hign]; rfl) (wpAny_execs_nil ?_))
 refine wpAny_execs_cons (flushIf (rest := (L, oL) :: rest) C (by first | exact dp0 hroom | exact dp hroom) hh S.sink hW hF (by rfl) rfl rfl rfl (fun σ1 s hW1 S => ?_))
 obtain ⟨⟨am, nz, a⟩, e1, e2, hda, hou, hde, hns, hpm, hps, hpn, x1, x2, x3⟩ := id hW1
 have ho := nz.o
 obtain ⟨v, lv, hbd⟩ : ∃ v lv, b.nss = v ++ [lv] := by
  rcases List.eq_nil_or_concat b.nss with h | ⟨i, q, h⟩
  · exact absurd h hnn
  · exact ⟨i, q, by rw [h, List.concat_eq_append]⟩
 have hns' : Lvs σ1.tus σ1.nsl b.nss := hns
 rw [hbd] at hns'
 obtain ⟨init, q, hq, h1, h2⟩ := hns'.unsnoc
 have hql : q.2.1.size < 900 := by
  have e := h2.length
  rw [Array.length_toList] at e
  have := hlz lv (by rw [hbd]; simp)
  lia
 have U := fun its' n' => (Wn.upNsl (C := 150) hq its' n').app ((L, oL) :: rest)
 refine wpAny_execs_cons (wpAny_Expr_any ?_ (by rfl) (by rfl))
 refine methodCall_KW (Subscript_ (Attribute_Name_ (ld S.F (by rfl) ?_)))
 refine attrN S C.X e1 ho (by k_is) (by k_is) (by k_is) (by k_is) a.nss rfl (fun s S => ?_)
 refine minus1 S (fun tt s S => ?_)
 refine lastS (l := init.map fun q => .ref q.1) (x := .ref q.1) (n := σ1.nns) S (by
  have e : (σ1.nsl.map fun q => Value.ref q.1) = (init.map fun q => Value.ref q.1) ++ [.ref q.1] := by rw [hq]; simp
  rw [← e]; exact (List.Mem.tail _ (List.Mem.tail _ (List.Mem.tail _ (List.Mem.tail _ (List.Mem.head _)))))) ?_
 refine appM S (U q.2.1 q.2.2).mem ?_
 refine callWith_method1 ?_ rfl
 refine spliced_more (Tuple_ ?_)
 refine spliced_more (ld S.F (by rfl) ?_)
 refine spliced_more (ld S.F (by rfl) ?_)
 refine spliced_none ?_
 refine tupS S (fun ta s S => ?_)
 refine spliced_none ?_
 refine appendS S (Up.tail (U (q.2.1.push (.ref ta)) (q.2.2 + 1))) (fun s S => ?_) (by rw [PySem.sizeLine_eq]; lia)
 refine wpAny_execs_nil (hQ0 _ _ ?_)
 have S := S.perm (Wn.addTu (σ := { σ1 with nsl := init ++ [(q.1, q.2.1.push (.ref ta), q.2.2 + 1)] }) _)
 exact k _ _ (hW1.addNs (ta := ta) (u := u) (p := p) (t1 := t2) (t2 := t1) (n' := q.2.2 + 1) hq hbd h1 h2) (S.rise.back fc_)
end
section
variable {w : World} {A : Around} {E : Value → Shared → Prop} {s : Shared} {R : Result → Shared → Prop} {B : Heap} {os : OsState} {G : Array GenState} {L : Addr} {m : Str → Option Value} {rest : List Cell} {σ : Wn} {c : Cfg} {x pl : Addr} {b : Ab}
structure Sane (b : Ab) : Prop where
 dz : (outsA b.dec).length < 900
 lz : ∀ v ∈ b.dec, v.length < 900
 lz2 : ∀ v ∈ b.nss, v.length < 900
 po : PrOk (outsA b.dec)
 pn : PrOk (outsA b.nss)
 dn : b.dec ≠ []
 pm : PrOkS (b.pmap.map (·.2))
 pz : b.pmap.length < 100
theorem qnA_len {c : Cfg} {b b2 : Ab} {uri tag y : Str} (h : Sane b) (ht : tag.length ≤ 900) (e : qnA c b uri tag = some (y, b2)) : y.length ≤ 1900 := by
 unfold qnA at e
 split at e
 · rename_i p hp
   cases e
   obtain ⟨q, hq, eq⟩ := findP_mem hp
   have := (h.po q hq).2
   rw [colon_len, ← eq]; lia
 · split at e
   · split at e
     · rename_i p hp
       cases e
       have := (h.pm p (firstP_mem hp)).2
       rw [colon_len]; lia
     · cases e
       have := nPre_len h.pz
       rw [colon_len]; lia
   · split at e
     · cases e; lia
     · split at e
       · rename_i p hp
         cases e
         obtain ⟨q, hq, eq⟩ := List.mem_map.mp (firstP_mem hp)
         have := (h.pn q hq).2
         rw [colon_len, ← eq]; lia
       · cases e
structure ASame (b b2 : Ab) : Prop where
 out : b2.out = b.out
 data : b2.data = b.data
 nss : b2.nss = b.nss
 pres : b2.pres = b.pres
 seen : b2.seen = b.seen
 done : b2.done = b.done
 ign : b2.ign = b.ign
 dl : b2.dec.length = b.dec.length
theorem ASame.trans {a b c : Ab} (h : ASame a b) (g : ASame b c) : ASame a c := ⟨g.out.trans h.out, g.data.trans h.data, g.nss.trans h.nss, g.pres.trans h.pres, g.seen.trans h.seen, g.done.trans h.done, g.ign.trans h.ign, g.dl.trans h.dl⟩
theorem qnA_same {c : Cfg} {b b2 : Ab} {uri tag y : Str} (e : qnA c b uri tag = some (y, b2)) : ASame b b2 := by
 have al : ∀ (v : List Lvl) p, (addLast v p).length = v.length := fun v p => by
  rcases List.eq_nil_or_concat v with h | ⟨i, q, h⟩
  · rw [h]; rfl
  · rw [h, List.concat_eq_append, addLast_snoc]; simp
 unfold qnA at e
 split at e
 · cases e; exact ⟨rfl, rfl, rfl, rfl, rfl, rfl, rfl, rfl⟩
 · split at e
   · split at e
     · cases e; exact ⟨rfl, rfl, rfl, rfl, rfl, rfl, rfl, al _ _⟩
     · cases e; exact ⟨rfl, rfl, rfl, rfl, rfl, rfl, rfl, al _ _⟩
   · split at e
     · cases e; exact ⟨rfl, rfl, rfl, rfl, rfl, rfl, rfl, rfl⟩
     · split at e
       · cases e; exact ⟨rfl, rfl, rfl, rfl, rfl, rfl, rfl, al _ _⟩
       · cases e
theorem qname_at {q uri tag : Str} {t₀ : Tok} (C : Cx (hd.heap_1 w.params) B) (hroom : A.depth + 2 < recursionLimit) (hh : A.handled = none) (S : St B os G L m (σ.cells 150 ++ rest) s) (hW : WIs progN w c x pl b σ) (hq : NmOk q uri tag) (hs : Sane b) (hok : qnA c b uri tag ≠ none)
 (k : ∀ y b' σ' G' a t1 t2 t3 s', Kin σ σ' → qnA c b uri tag = some (y, b') → WIs progN w c x pl b' σ' → St B os G' L m ((a, tupO #[.str y t1, .str tag t2, .str uri t3]) :: (σ'.cells 150 ++ rest)) s' → R (.ok (.ret (.ref a))) s') :
 codeAny (model progN w) A (.call (.ref 90) ⟨[.ref x, .str q t₀], []⟩) R s :=
 qname_spec C hroom hh S hW hq hs.dz hs.lz hs.po hs.pn hs.dn hs.pm hs.pz hs.lz2 hok k
theorem writeStmt {p1 p2 p3 p4 : Pos} {e : PySem.Expr} {qual : Str} {scope : Scope} {f : Addr} {cd : Value} {Q : Flow → Shared → Prop} (C : Cx (hd.heap_1 w.params) B) (S : St B os G L m (σ.cells 150 ++ rest) s) (hW : WIs progN w c x pl b σ) (hsame : b.out.length < 10000)
 (hm : m (ofString "self") = some (.ref x)) (hsk : scope.kind = .function) (hlk : (envOf qual scope L f cd).kindOf (ofString "self") = some .local) (hline : (p2.endLine == p3.line) = true)
 (he : starEach [e] (envOf qual scope L f cd) = (false, eval e (envOf qual scope L f cd)) :: starEach [] (envOf qual scope L f cd)) (hfew : methodCallForm 1 (backTo p3 (starEach [e] (envOf qual scope L f cd))) (backToKw p3 (keywordEach [] (envOf qual scope L f cd))) = true)
 (h : ∀ s, St B os G L m (σ.cells 150 ++ rest) s → wpAny (model progN w) A (eval e (envOf qual scope L f cd)) (fun v s₁ => ∃ y t G' b2 σ2, v = .str y t ∧ WIs progN w c x pl b2 σ2 ∧ b2.out = b.out ∧ Kin σ σ2 ∧ St B os G' L m (σ2.cells 150 ++ rest) s₁ ∧ ∀ σ' s', WIs progN w c x pl { b2 with out := b2.out ++ [y] } σ' → St B os G' L m (σ'.cells 150 ++ rest) s' → Q .next s') E s) :
 wpAny (model progN w) A (exec (.Expr (.Call (.Attribute (.Name (ofString "self") p1) (ofString "_write") p2) [e] [] p3) p4) (envOf qual scope L f cd)) Q E s := by
 obtain ⟨⟨am, nz, a⟩, e1, e2, hda, hou, hde, hns, hpm, hps, hpn, x1, x2, x3⟩ := id hW
 subst e1 e2
 have ho := nz.o
 refine wpAny_Expr_any ?_ (by show (scope.kind == .module && (scope.more.any _)) = false; rw [hsk]; rfl) (by rfl)
 refine methodCall_S rfl hfew hline (ld S.F hm (fun pl => ?_) hsk hlk)
 refine valM S C.X (List.Mem.head _) (List.Mem.tail _ (List.Mem.head _)) ho (by k_is) (by k_is) (by k_is) a.write rfl (fun s S => ?_)
 refine callWith_bmS (fs := #[.builtin "list.append", .ref σ.pl]) ?_ he
 refine spliced_more (wpAny_mono (h s S) ?_ fun _ _ z => z) he
 rintro v s₁ ⟨y, t, G', b2, σ2, rfl, hW2, hbo, kin, S, k⟩
 obtain ⟨⟨am2, nz2, a2⟩, f1, f2, hda2, hou2, hde2, hns2, hpm2, hps2, hpn2, x12, x22, x32⟩ := id hW2
 refine spliced_none ⟨by rw [← f2, ← kin.bm]; exact S.get (List.Mem.tail _ (List.Mem.tail _ (List.Mem.tail _ (List.Mem.tail _ (List.Mem.tail _ (List.Mem.tail _ (List.Mem.tail _ (List.Mem.head _)))))))), ?_⟩
 rw [← kin.bm]
 refine bmCallL S (List.Mem.tail _ (List.Mem.tail _ (List.Mem.tail _ (List.Mem.tail _ (List.Mem.tail _ (List.Mem.tail _ (List.Mem.tail _ (List.Mem.head _)))))))) (Up.tail (Up.tail (Up.tail (Up.tail (Up.tail (Up.tail (Up.tail (Up.tail Up.head)))))))) (fun s S => ?_) (by rw [hou2.length, hbo]; lia)
 exact k { σ2 with out := σ2.out ++ [.str y t], npl := σ2.npl + 1 } _ ⟨⟨am2, nz2, a2.same ⟨rfl, rfl, rfl, rfl, rfl, rfl, rfl, rfl, rfl⟩⟩, f1, f2, hda2, hou2.snoc y t, hde2, hns2, hpm2, hps2, hpn2, x12, x22, x32⟩ S
end
section
variable {w : World} {A : Around} {s : Shared} {R : Result → Shared → Prop} {B : Heap} {os : OsState} {G : Array GenState} {L : Addr} {m : Str → Option Value} {rest : List Cell} {σ : Wn} {c : Cfg} {x pl : Addr} {b : Ab}
noncomputable def endT (tag : Str) : Str := Str.empty ++ (ofString "</") ++ tag ++ (ofString ">")
noncomputable abbrev ended (b2 : Ab) (y : Str) : Ab := { b2 with out := b2.out ++ [endT y], pres := b2.pres.dropLast, done := decide (b2.pres.dropLast.length = 1), dec := b2.dec.dropLast, nss := b2.nss.dropLast }
theorem Sane.flushed {c : Cfg} {b : Ab} (h : Sane b) : Sane (flushed c b) := ⟨h.dz, h.lz, h.lz2, h.po, h.pn, h.dn, h.pm, h.pz⟩
set_option maxHeartbeats 4000000 in
theorem end_spec {q uri tag : Str} {t : Tok} (C : Cx (hd.heap_1 w.params) B) (hroom : A.depth + 4 < recursionLimit) (hh : A.handled = none) (S : St B os G L m (σ.cells 150 ++ rest) s) (hW : WIs progN w c x pl b σ) (hign : b.ign = 0) (hF : Fit b) (hs : Sane b) (hq : NmOk q uri tag) (hok : qnA c (flushed c b) uri tag ≠ none) (hp2 : b.pres.length < 900) (hd2 : b.dec.length < 900) (hn2 : b.nss.length < 900) (hnn : b.nss ≠ [])
 (k : ∀ y b2 σ' G' s', qnA c (flushed c b) uri tag = some (y, b2) → WIs progN w c x pl (ended b2 y) σ' → St B os G' L m (σ'.cells 150 ++ rest) s' → R (.ok (.ret .none)) s') :
 codeAny (model progN w) A (.call (.ref 133) ⟨[.ref x, .str q t], []⟩) R s := by
 obtain ⟨⟨am, nz, a⟩, e1, e2, _⟩ := id hW
 have ho := nz.o
 obtain ⟨ti, ai⟩ := a.ign
 subst e1 e2
 refine' call_fn (K := hd.heap_1 w.params) (binds := [((ofString "self"), .ref σ.x), ((ofString "tag"), .str q t)]) S C.X C.lim ?ho ?hcd ?hroom ?hbind ?hloc (fun L' oL s fc_ S => ?_) ?hco ?hgen ?hk ?hcell
 case ho => k_is
 case hcd => k_is
 case hco => rfl
 case hgen => rfl
 case hk => rfl
 case hcell => decide
 case hroom => first | lia | (simp only [depth_deeper]; lia) | (simp only [depth_deeper, depth_in1]; lia)
 case hbind => exact BindsTo.of_eq rfl
 case hloc => exact locs rfl
 refine wabs (fun Q0 E0 hQ0 => ?_)
 have S : St B os G L' _ ((L, oL) :: (σ.cells 150 ++ rest)) s := S
 have S := S.sink
 refine wpAny_execs_cons (wpAny_If (wpAny_isTrue_value (Attribute_Name_ (ld S.F (by rfl) ?_))))
 refine attrN S C.X rfl ho (by k_is) (by k_is) (by k_is) (by k_is) ai rfl (fun s S => ?_)
 refine PyProof.Rows.truthy_int (ifF (by rw [hign]; rfl) (wpAny_execs_nil ?_))
 refine wpAny_execs_cons (flushIf C (by first | exact dp0 hroom | exact dp hroom) hh S hW hF (by rfl) rfl rfl rfl (fun σ1 s hW1 S => ?_))
 clear a ho nz ai
 have hfl : (flOut c.st (lastP b) b.data).length ≤ 1 := by unfold flOut; split <;> simp
 have hFo := hF.out
 refine wpAny_execs_cons (writeStmt C S hW1 (by simp only [List.length_append]; lia) (by rfl) rfl rfl rfl rfl rfl (fun s S => ?_))
 refine JoinedStr_many (joinParts_cons (wpAny_Constant_str ⟨by decide, joinParts_cons (FormattedValue_plain (Subscript_ ?_))⟩))
 have S := S.tk (t := s.toks + 1)
 refine methodCall_KW (ld S.F (by rfl) ?_)
 obtain ⟨⟨am, nz, a⟩, e1, e2, _⟩ := id hW1
 refine methN S C.X e1 nz.o (by k_is) (by k_is) (by k_is) a.m2 ?_
 refine callWith_K (K := hd.heap_1 w.params) C.X (by k_is) ?_
 refine spliced_more (ld S.F (by rfl) ?_)
 refine spliced_none ⟨S.X C.X, wpAny_call ?_⟩
 refine qname_at C (by first | exact dp0 hroom | exact dp hroom) hh S hW1 hq hs.flushed hok (fun y b2 σ2 G' qa t1 t2 t3 s kin hqn hW2 S => ?_)
 clear a nz e1 e2
 have hyl := qnA_len hs.flushed hq.tt hqn
 have o := qnA_same hqn
 refine wpAny_Constant_int ?_
 refine tupItem (i := 0) S.tk (List.Mem.head _) rfl ?_
 have z0 : Str.empty.length = 0 := by decide
 have z1 : (ofString "</").length = 2 := by decide
 have z2 : (ofString ">").length = 1 := by decide
 refine formatField_str (fun t5 tk => ⟨by rw [PySem.sizeLine_eq, len_app, len_app]; lia, joinParts_cons (wpAny_Constant_str ⟨by rw [PySem.sizeLine_eq, len_app, len_app, len_app]; lia, joinParts_nil ?_ (by rw [PySem.sizeLine_eq, len_app, len_app, len_app]; lia)⟩)⟩) (by rw [PySem.sizeLine_eq]; lia)
 refine ⟨_, _, _, b2, σ2, rfl, hW2, o.out, kin, (S.drop (List.sublist_cons_self _ _)).tk.tk.tk, fun τ s hW3 S => ?_⟩
 obtain ⟨⟨am, nz, a⟩, e1, e2, hda, hou, hde, hns, hpm, hps, hpn, x1, x2, x3⟩ := hW3
 have ho := nz.o
 obtain ⟨pv, pb, hpb⟩ : ∃ v q, b2.pres = v ++ [q] := by
  rcases List.eq_nil_or_concat b2.pres with h | ⟨i, q, h⟩
  · exact absurd (o.pres.symm.trans h) hF.pr
  · exact ⟨i, q, by rw [h, List.concat_eq_append]⟩
 have hpl2 : b2.pres.length < 900 := by rw [o.pres]; exact hp2
 have hpvl : pv.length < 900 := by rw [hpb] at hpl2; simp at hpl2; lia
 have hpv : b2.pres.dropLast = pv := by rw [hpb]; simp
 simp only at hps hde hns
 refine wpAny_execs_cons (wpAny_Expr_any ?_ (by rfl) (by rfl))
 refine methodCall_KW (Attribute_Name_ (ld S.F (by rfl) ?_))
 refine attrN S C.X e1 ho (by k_is) (by k_is) (by k_is) (by k_is) a.psp rfl (fun s S => ?_)
 refine popM S (List.Mem.tail _ (List.Mem.tail _ (List.Mem.tail _ (List.Mem.tail _ (List.Mem.tail _ (List.Mem.head _)))))) (callWith_method0 ?_)
 refine popE (p := pv.map Value.bool) (y := .bool pb) S (by rw [hps, hpb]; simp) (Up.tail (Up.tail (Up.tail (Up.tail (Up.tail Up.head))))) (by simp; lia) (fun s S => ?_)
 have S : St B os G' L' _ ({ τ with psv := pv, nps := τ.nps + 1 }.cells 150 ++ ((L, oL) :: rest)) s := S
 refine wpAny_execs_cons (plainObj_wpAny_Assign_Attribute ?_)
 refine wpAny_Compare1 (wpAny_Call_ofName (bltS C S (by k_is) PySem.boot_len (by decide) ?_))
 refine PyProof.Rows.callWith_builtin1 ?_
 refine spliced_more (Attribute_Name_ (ld S.F (by rfl) ?_))
 refine attrN S C.X e1 ho (by k_is) (by k_is) (by k_is) (by k_is) a.psp rfl (fun s S => ?_)
 refine spliced_none ?_
 refine lenL S (List.Mem.tail _ (List.Mem.tail _ (List.Mem.tail _ (List.Mem.tail _ (List.Mem.tail _ (List.Mem.head _)))))) (by simp; lia) (fun tl s S => ?_)
 refine wpAny_Constant_int (PySem.P.eq_int ?_)
 have S := S.tk (t := s.toks + 1)
 refine ld S.F (by rfl) ?_
 refine setN S C.X e1 nz a.done (by k_is) (by k_is) (by k_is) (by k_is) (fun od' s nz S => ?_)
 have hdone : (((pv.map Value.bool).length : Int) == 1) = decide (b2.pres.dropLast.length = 1) := by
  rw [List.length_map, hpv]
  by_cases h : pv.length = 1
  · simp [h]
  · simp [h]; lia
 rw [hdone] at nz
 have a := a.putDone (done' := decide (b2.pres.dropLast.length = 1))
 have ho := nz.o
 obtain ⟨dv, dl, hdl⟩ : ∃ v q, b2.dec = v ++ [q] := by
  rcases List.eq_nil_or_concat b2.dec with h | ⟨i, q, h⟩
  · have o8 := o.dl
    rw [h] at o8
    exact absurd (List.length_eq_zero_iff.mp o8.symm) hs.dn
  · exact ⟨i, q, by rw [h, List.concat_eq_append]⟩
 obtain ⟨nv, nl, hnl⟩ : ∃ v q, b2.nss = v ++ [q] := by
  rcases List.eq_nil_or_concat b2.nss with h | ⟨i, q, h⟩
  · exact absurd (o.nss.symm.trans h) hnn
  · exact ⟨i, q, by rw [h, List.concat_eq_append]⟩
 rw [hdl] at hde
 rw [hnl] at hns
 obtain ⟨dini, dz, hdz, hd1, hd2'⟩ := hde.unsnoc
 obtain ⟨nini, nq, hnq, hn1, hn2'⟩ := hns.unsnoc
 have hdil : dini.length < 900 := by
  have := hd1.length
  have h2 : b2.dec.length < 900 := by rw [o.dl]; exact hd2
  rw [hdl] at h2; simp at h2; lia
 have hnil : nini.length < 900 := by
  have := hn1.length
  have h2 : b2.nss.length < 900 := by rw [o.nss]; exact hn2
  rw [hnl] at h2; simp at h2; lia
 refine wpAny_execs_cons (wpAny_Expr_any ?_ (by rfl) (by rfl))
 refine methodCall_KW (Attribute_Name_ (ld S.F (by rfl) ?_))
 refine attrN S C.X e1 ho (by k_is) (by k_is) (by k_is) (by k_is) a.dst rfl (fun s S => ?_)
 refine popM S (List.Mem.tail _ (List.Mem.tail _ (List.Mem.tail _ (List.Mem.head _)))) (callWith_method0 ?_)
 refine popE (p := dini.map fun q => Value.ref q.1) (y := .ref dz.1) S (by rw [hdz]; simp) (Up.tail (Up.tail (Up.tail Up.head))) (by simp; lia) (fun s S => ?_)
 refine wpAny_execs_cons (wpAny_Expr_any ?_ (by rfl) (by rfl))
 refine methodCall_KW (Attribute_Name_ (ld S.F (by rfl) ?_))
 rw [← e1]
 refine attrS S C.X (List.Mem.head _) (List.Mem.tail _ (List.Mem.head _)) ho (by k_is) (by k_is) (by k_is) (by k_is) a.nss rfl (fun s S => ?_)
 refine popM S (List.Mem.tail _ (List.Mem.tail _ (List.Mem.tail _ (List.Mem.tail _ (List.Mem.head _))))) (callWith_method0 ?_)
 refine popE (p := nini.map fun q => Value.ref q.1) (y := .ref nq.1) S (by rw [hnq]; simp) (Up.tail (Up.tail (Up.tail (Up.tail Up.head)))) (by simp; lia) (fun s S => ?_)
 refine wpAny_execs_nil ?_
 refine hQ0 _ _ ?_
 refine k y b2 { τ with od := od', dec := dini, nst := τ.nst + 1, nsl := nini, nns := τ.nns + 1, psv := pv, nps := τ.nps + 1 } G' _ hqn ⟨⟨_, nz, a.same ⟨rfl, rfl, rfl, rfl, rfl, rfl, rfl, rfl, rfl⟩⟩, e1, e2, hda, hou, ?_, ?_, hpm, hpv.symm, hpn, x1, x2, x3⟩ (St.back (St.rise (S.drop ?_)) fc_)
 · show Lvs τ.tus dini b2.dec.dropLast
   rw [hdl, List.dropLast_concat]; exact hd1
 · show Lvs τ.tus nini b2.nss.dropLast
   rw [hnl, List.dropLast_concat]; exact hn1
 · have hs1 : (lvC dini).Sublist (lvC τ.dec) := by rw [hdz]; exact (List.sublist_append_left dini [dz]).map _
   have hs2 : (lvC nini).Sublist (lvC τ.nsl) := by rw [hnq]; exact (List.sublist_append_left nini [nq]).map _
   exact (List.Sublist.cons_cons _ (List.Sublist.cons_cons _ (List.Sublist.cons_cons _ (List.Sublist.cons_cons _ (List.Sublist.cons_cons _ (List.Sublist.cons_cons _ (List.Sublist.cons_cons _ (List.Sublist.cons_cons _ (List.Sublist.cons_cons _ (List.Sublist.append (List.Sublist.append hs1 (List.Sublist.append hs2 (List.Sublist.refl _))) (List.Sublist.refl _)))))))))))
end
section
variable {c : Cfg} {b : Ab}
noncomputable def cutN (q : Str) : Str × Str := if (q.cps.toList.take 1 == (ofString "{").cps.toList) = true then (match Txt.rsplitMax (tailS q) (ofString "}") 1 with | [u, t] => (u, t) | _ => ((ofString ""), q)) else ((ofString ""), q)
noncomputable def NameOk (q : Str) : Prop := NmOk q (cutN q).1 (cutN q).2
noncomputable def nkey (q : Str) : List Str := Txt.splitMax q (ofString "}") 1
noncomputable def parseA (c : Cfg) : Ab → List Str → Option (List (Str × Str) × Ab)
 | b, [] => some ([], b)
 | b, n :: r =>
  match qnA c b (cutN n).1 (cutN n).2 with
  | none => none
  | some (y, b1) => (parseA c b1 r).map fun z => ((n, y) :: z.1, z.2)
noncomputable abbrev xsp : Str := (ofString "{http://www.w3.org/XML/1998/namespace}space")
noncomputable def keepsA (last : Bool) (at' : List (Str × Str)) : Bool := match firstP xsp at' with
 | none => last
 | some v => if v = (ofString "") then last else decide (v = (ofString "preserve"))
noncomputable def declA (lv : Lvl) : List (Str × Str) := lsort pkey (lv.map fun p => ((ofString "xmlns:") ++ p.2, p.1))
noncomputable def attrA (pr : List (Str × Str)) (at' : List (Str × Str)) : List (Str × Str) := (lsort pkey at').map fun p => (if (cutN p.1).1 = (ofString "") then (cutN p.1).2 else (firstP p.1 pr).getD (ofString ""), p.2)
noncomputable def fmtA (p : Str × Str) : Str := Str.empty ++ (ofString " ") ++ p.1 ++ (ofString "=\"") ++ escA p.2 ++ (ofString "\"")
noncomputable def openA (y : Str) (al : List (Str × Str)) : List Str := [(ofString "<") ++ y] ++ (if al = [] then [] else [Txt.join (ofString "") (al.map fmtA)]) ++ [(ofString ">")]
noncomputable def startInA (c : Cfg) (b : Ab) (q : Str) (at' : List (Str × Str)) : Option Ab :=
 (parseA c b (lsort nkey (q :: at'.map (·.1)))).map fun z =>
  { z.2 with out := z.2.out ++ openA ((firstP q z.1).getD (ofString "")) (declA (z.2.dec.getLastD []) ++ attrA z.1 at'), pres := z.2.pres ++ [keepsA (lastP b) at'], seen := true, nss := z.2.nss ++ [[]] }
theorem parseA_same {c : Cfg} {l : List Str} : ∀ {b b2 : Ab} {z : List (Str × Str)}, parseA c b l = some (z, b2) → ASame b b2 ∧ z.map (·.1) = l := by
 induction l with
 | nil =>
  intro b b2 z h
  cases h
  exact ⟨⟨rfl, rfl, rfl, rfl, rfl, rfl, rfl, rfl⟩, rfl⟩
 | cons n r ih =>
  intro b b2 z h
  unfold parseA at h
  split at h
  · cases h
  · rename_i y b1 hq
    obtain ⟨z', hp, e⟩ := Option.map_eq_some_iff.mp h
    cases e
    have q := ih (z := z'.1) (b2 := z'.2) hp
    exact ⟨(qnA_same hq).trans q.1, by rw [List.map_cons, q.2]⟩
end
inductive Trip (tc : List Cell) : Kvs → List (Str × Str) → Prop
 | nil : Trip tc [] []
 | cons {n y : Str} {a : Addr} {t1 t2 t3 : Tok} {kvs : Kvs} {z : List (Str × Str)} : (a, tupO #[.str y t1, .str (cutN n).2 t2, .str (cutN n).1 t3]) ∈ tc → Trip tc kvs z → Trip tc ((n, .ref a) :: kvs) ((n, y) :: z)
theorem Trip.mono {c c' : List Cell} (h : ∀ p ∈ c, p ∈ c') {kvs : Kvs} {z : List (Str × Str)} (ht : Trip c kvs z) : Trip c' kvs z := by
 induction ht with
 | nil => exact .nil
 | cons x _ ih => exact .cons (h _ x) ih
theorem Trip.snoc {tc : List Cell} {n y : Str} {a : Addr} {t1 t2 t3 : Tok} (x : (a, tupO #[.str y t1, .str (cutN n).2 t2, .str (cutN n).1 t3]) ∈ tc) : ∀ {kvs : Kvs} {z : List (Str × Str)}, Trip tc kvs z → Trip tc (kvs ++ [(n, .ref a)]) (z ++ [(n, y)])
 | _, _, .nil => .cons x .nil
 | _, _, .cons y r => .cons y (r.snoc x)
theorem Trip.keys {tc : List Cell} : ∀ {kvs : Kvs} {z : List (Str × Str)}, Trip tc kvs z → kvs.map (·.1) = z.map (·.1)
 | _, _, .nil => rfl
 | _, _, .cons _ r => by simp [r.keys]
theorem Trip.at {tc : List Cell} {n : Str} {kvs : Kvs} {z : List (Str × Str)} (ht : Trip tc kvs z) : n ∈ z.map (·.1) → ∃ a y t1 t2 t3, valueAt kvs n = some (.ref a) ∧ firstP n z = some y ∧ (a, tupO #[.str y t1, .str (cutN n).2 t2, .str (cutN n).1 t3]) ∈ tc := by
 induction ht with
 | nil => intro h; cases h
 | @cons n' y a t1 t2 t3 _ _ x r ih =>
  intro h
  by_cases e : n' = n
  · subst e
    exact ⟨a, y, t1, t2, t3, by simp [valueAt], by rw [firstP, if_pos rfl], x⟩
  · have h' := (List.mem_cons.mp h).resolve_left fun q => e q.symm
    obtain ⟨a', y', u1, u2, u3, g1, g2, g3⟩ := ih h'
    exact ⟨a', y', u1, u2, u3, by simpa [valueAt, e] using g1, by rw [firstP, if_neg e]; exact g2, g3⟩
theorem Pairs.tup {c c' : List Cell} (h : ∀ a its, (a, tupO its) ∈ c → (a, tupO its) ∈ c') {vs : List Value} {ps : List (Str × Str)} (hl : Pairs c vs ps) : Pairs c' vs ps := by
 induction hl with
 | nil => exact .nil
 | cons x _ ih => exact .cons (h _ _ x) ih
theorem tup_ne_list {its : Array Value} {l : Array Value} {n : Nat} (h : tupO its = listOf l n) : False := by
 have := congrArg Obj.cls h
 simp [W.listOf] at this
section
variable {w : World} {A : Around} {E : Value → Shared → Prop} {s : Shared} {B : Heap} {os : OsState} {G : Array GenState} {L a : Addr} {m : Str → Option Value} {news : List Cell} {c : Cfg} {x pl : Addr}
variable {cn : Str} {cs : Scope} {ccd : Value} {cl : List (Str × Addr)}
theorem ifNames {x0 a0 b0 u ya yb : Str} {tu ta tb : Tok} {p1 p2 p3 p4 : Pos} {Q : Value → Shared → Prop} (S : St B os G L m news s) (hx : m x0 = some (.str u tu)) (ha : m a0 = some (.str ya ta)) (hb : m b0 = some (.str yb tb)) (hz : u.length ≤ 2000) (hk : cs.kind = .function)
 (lx : (envX cn cs L a ccd cl).kindOf x0 = some .local) (la : (envX cn cs L a ccd cl).kindOf a0 = some .local) (lb : (envX cn cs L a ccd cl).kindOf b0 = some .local) (h : ∀ t s', St B os G L m news s' → Q (.str (if u = (ofString "") then yb else ya) t) s')
 (dx : (x0 == ("__debug__" : Str)) = false := by decide) (da : (a0 == ("__debug__" : Str)) = false := by decide) (db : (b0 == ("__debug__" : Str)) = false := by decide) :
 wpAny (model progN w) A (eval (.IfExp (.Name x0 p1) (.Name a0 p2) (.Name b0 p3) p4) (envX cn cs L a ccd cl)) Q E s := by
 refine wpAny_IfExp (wpAny_isTrue_value (ldX S hx ?_ hk lx dx))
 refine truthyT S hz (fun s S => ?_)
 by_cases hu : u = Str.empty
 · refine ifF (by simpa using hu) (ldX S hb ?_ hk lb db)
   have := h tb _ S
   rwa [if_pos (show u = (ofString "") from hu)] at this
 · refine ifT (by simpa using hu) (ldX S ha ?_ hk la da)
   have := h ta _ S
   rwa [if_neg (show ¬ u = (ofString "") from hu)] at this
noncomputable abbrev loopNames : List Str := [(ofString "k"), (ofString "v"), (ofString "attr_qname"), (ofString "attr_name"), (ofString "uri")]
noncomputable def atOne (z : List (Str × Str)) (p : Str × Str) : Str × Str := (if (cutN p.1).1 = (ofString "") then (cutN p.1).2 else (firstP p.1 z).getD (ofString ""), p.2)
inductive JA (pc F : List Cell) (al : Addr) (m : Str → Option Value) (G : Array GenState) (z ds ats : List (Str × Str)) (rem : List Value) (G' : Array GenState) (m' : Str → Option Value) (nx : List Cell) : Prop
 | mk {r1 r2 vs n tc} (eG : G' = G) (hm : ∀ y, y ∉ loopNames → m' y = m y) (er : ats = r1 ++ r2) (hpr : Pairs F rem r2) (hpv : Pairs (tc ++ pc) vs (ds ++ r1.map (atOne z))) (en : nx = (al, listOf vs.toArray n) :: (tc ++ F)) : JA pc F al m G z ds ats rem G' m' nx
theorem JA.elim {P : Prop} {pc F : List Cell} {al : Addr} {z ds ats : List (Str × Str)} {rem : List Value} {G' : Array GenState} {m' : Str → Option Value} {nx : List Cell} (h : JA pc F al m G z ds ats rem G' m' nx)
 (k : ∀ r1 r2 vs n tc, G' = G → (∀ y, y ∉ loopNames → m' y = m y) → ats = r1 ++ r2 → Pairs F rem r2 → Pairs (tc ++ pc) vs (ds ++ r1.map (atOne z)) → nx = (al, listOf vs.toArray n) :: (tc ++ F) → P) : P := by
 cases h with
 | mk a1 a2 a3 a4 a5 a6 => exact k _ _ _ _ _ a1 a2 a3 a4 a5 a6
set_option maxHeartbeats 2000000 in
theorem attrsStmt {p1 p2 p3 p4 p5 p6 p7 p8 p9 p10 p11 p12 p13 p14 p15 p16 p17 p18 p19 p20 p21 p22 p23 p24 p25 p26 p27 p28 p29 : Pos} {k1 k2 k3 : Nat} {pc : List Cell} {ifq : Stmt} {D D' al : Addr} {oD oD' : Obj} {at' : List (Str × Str × Tok)} {kvs : Kvs} {z ds : List (Str × Str)} {vs : List Value} {n : Nat} {Q : Flow → Shared → Prop} (C : Cx (hd.heap_1 w.params) B) (hh : A.handled = none)
 (S : St B os G L m ((al, listOf vs.toArray n) :: news) s) (m1 : m (ofString "attrs") = some (.ref D)) (m3 : m (ofString "parsed_qnames") = some (.ref D')) (m4 : m (ofString "attr_list") = some (.ref al))
 (hD : (D, oD) ∈ news) (hDd : DicO progN w oD (tkv at')) (hDm : (D == sysModules) = false) (hal : at'.length < 50) (hD' : (D', oD') ∈ news) (hDd' : DicO progN w oD' kvs) (htr : Trip news kvs z)
 (hin : ∀ p ∈ tps at', p.1 ∈ z.map (·.1) ∧ (cutN p.1).1.length ≤ 900) (hp : Pairs pc vs ds) (hdz : ds.length < 100)
 (hifq : ∀ {G m' news s} {E : Value → Shared → Prop} {Q : Flow → Shared → Prop}, St B os G L m' news s → (∀ y, y ∉ loopNames → m' y = m y) → (∀ s', St B os G L m' news s' → Q .next s') → wpAny (model progN w) A (exec ifq (envX cn cs L a ccd cl)) Q E s)
 (hk : cs.kind = .function) (l1 : (envX cn cs L a ccd cl).kindOf (ofString "attrs") = some .local) (l3 : (envX cn cs L a ccd cl).kindOf (ofString "parsed_qnames") = some .local) (l4 : (envX cn cs L a ccd cl).kindOf (ofString "attr_list") = some .local) (l5 : (envX cn cs L a ccd cl).kindOf (ofString "k") = some .local) (l6 : (envX cn cs L a ccd cl).kindOf (ofString "v") = some .local)
 (l7 : (envX cn cs L a ccd cl).kindOf (ofString "attr_qname") = some .local) (l8 : (envX cn cs L a ccd cl).kindOf (ofString "attr_name") = some .local) (l9 : (envX cn cs L a ccd cl).kindOf (ofString "uri") = some .local) (l10 : (envX cn cs L a ccd cl).kindOf (ofString "sorted") = some .globalImplicit) (hline : (p6.endLine == p7.line) = true) (hline2 : (p20.endLine == p27.line) = true)
 (h : ∀ m' vs' n' tc s', (∀ y, y ∉ loopNames → m' y = m y) → Pairs (tc ++ pc) vs' (ds ++ attrA z (tps at')) → St B os G L m' ((al, listOf vs'.toArray n') :: (tc ++ news)) s' → Q .next s') :
 wpAny (model progN w) A (exec (.If (.Name (ofString "attrs") p1) [.For (.Tuple [.Name (ofString "k") p2, .Name (ofString "v") p3] k1 p4) (.Call (.Name (ofString "sorted") p5) [.Call (.Attribute (.Name (ofString "attrs") p8) (ofString "items") p6) [] [] p7] [] p9)
  [ifq, .Assign [.Tuple [.Name (ofString "attr_qname") p10, .Name (ofString "attr_name") p11, .Name (ofString "uri") p12] k2 p13] (.Subscript (.Name (ofString "parsed_qnames") p14) (.Name (ofString "k") p15) p16) p17,
   .Expr (.Call (.Attribute (.Name (ofString "attr_list") p19) (ofString "append") p20) [.Tuple [.IfExp (.Name (ofString "uri") p21) (.Name (ofString "attr_qname") p22) (.Name (ofString "attr_name") p23) p24, .Name (ofString "v") p25] k3 p26] [] p27) p28] [] p29] [] p18) (envX cn cs L a ccd cl)) Q E s := by
 refine wpAny_If (wpAny_isTrue_value (ldX S m1 ?_ hk l1))
 refine truthyD S (.tail _ hD) hDd hDm (by simp; lia) (fun s S => ?_)
 cases hat : at' with
 | nil =>
  refine ifF rfl (wpAny_execs_nil ?_)
  subst hat
  exact h m vs n [] s (fun _ _ => rfl) (by rw [show attrA z (tps []) = [] from rfl, List.append_nil]; exact hp) S
 | cons at0 atr =>
  rw [← hat]
  refine ifT (by rw [hat]; rfl) ?_
  refine wpAny_execs_cons (wpAny_For ?_)
  refine wpAny_Call_ofName (bltX C S (by k_is) boot_sorted (by decide) ?_ hk l10)
  refine PyProof.Rows.callWith_builtin1 ?_
  refine spliced_more (methodCall_S rfl rfl hline (ldX S m1 ?_ hk l1))
  intro pl
  refine itemsM S (.tail _ hD) hDd ?_
  refine callWith_method0 ?_
  refine itemsV S (.tail _ hD) hDd hDm (fun v s S => ?_)
  refine spliced_none ?_
  refine sortedItemsS hh S (.head _) (.tail _ (.tail _ hD)) hDd (by lia) (fun l tc0 vs0 n0 s hps S => ?_)
  have hps' : Pairs (tc0 ++ ((v, itvO D) :: news)) vs0 (lsort pkey (tps at')) := hps.tup fun a its hm => by
   rcases List.mem_append.mp hm with q | q
   · exact List.mem_append_left _ q
   · rcases List.mem_cons.mp q with q | q
     · exact List.mem_append_right _ (q ▸ .head _)
     · rcases List.mem_cons.mp q with q | q
       · injection q with _ q2
         exact (tup_ne_list q2).elim
       · exact List.mem_append_right _ (.tail _ q)
  have S : St B os G L m ((al, listOf vs.toArray n) :: ((l, listOf vs0.toArray n0) :: (tc0 ++ ((v, itvO D) :: news)))) s := by
   refine S.perm ?_
   refine (List.Perm.cons _ (List.Perm.append_left tc0 (List.Perm.swap ..))).trans ?_
   exact (List.Perm.cons _ List.perm_middle).trans (List.Perm.swap ..)
  refine iterL S (.tail _ (.head _)) (fun it oit s hit S => ?_)
  obtain ⟨F, hF⟩ : ∃ F, F = (l, listOf vs0.toArray n0) :: (tc0 ++ ((v, itvO D) :: news)) := ⟨_, rfl⟩
  have hpsF : Pairs F vs0 (lsort pkey (tps at')) := hps'.mono fun p hp => hF ▸ .tail _ hp
  have fl : (l, listOf vs0.toArray n0) ∈ F := hF ▸ .head _
  have fn : ∀ p ∈ news, p ∈ F := fun p hp => hF ▸ .tail _ (List.mem_append_right _ (.tail _ hp))
  replace S : St B os G L m ((it, oit) :: (al, listOf vs.toArray n) :: ([] ++ F)) s := by rw [hF]; exact S
  refine forP (n := n0) (JA pc F al m G z ds (lsort pkey (tps at'))) hh S hit (.mk (r1 := []) (tc := []) rfl (fun _ _ => rfl) rfl hpsF (by simpa using hp) rfl) ?_ ?_ ?_ ?_ hk l5 l6
  · exact fun hJ => hJ.elim fun _ _ _ _ _ _ _ _ _ _ e => e ▸ .tail _ (List.mem_append_right _ fl)
  · exact fun hJ => hJ.elim fun _ _ _ _ _ _ _ _ hpr _ e => hpr.consE fun a u p t1 t2 _ ev _ hx _ => ⟨a, .str u t1, .str p t2, ev, by rw [e]; exact .tail _ (List.mem_append_right _ hx)⟩
  · intro ta u p rem G' m' news' oit' s hJ hta S
    refine wabs (fun Q' E' hQ' => ?_)
    refine hJ.elim (fun r1 r2 vs1 n1 tc1 eG hm' er hpr hpv en => ?_)
    refine hpr.consE (fun ta' u' p' t1 t2 r2' ev er2 hx hr => ?_)
    · cases ev
      replace S := S.castC en
      rw [en] at hta
      obtain ⟨eu, ep⟩ := tup2_of S (.tail _ (.tail _ (List.mem_append_right _ hx))) (.tail _ hta)
      rw [eu, ep] at S
      rw [er2] at er
      have hpm : (u', p') ∈ tps at' := (lsort_perm (key := pkey) (tps at')).mem_iff.mp (by rw [er]; exact List.mem_append_right _ (.head _))
      obtain ⟨hiz, hcu⟩ := hin _ hpm
      refine wpAny_execs_cons (hifq S (fun y hy => ?_) (fun s S => ?_))
      · have h1 : y ≠ (ofString "v") := fun e => hy (e ▸ by decide)
        have h2 : y ≠ (ofString "k") := fun e => hy (e ▸ by decide)
        exact (updM_ne h1).trans ((updM_ne h2).trans (hm' y hy))
      obtain ⟨ra, y, u1, u2, u3, g1, g2, g3⟩ := htr.at hiz
      refine wpAny_execs_cons (Assign_Tuple ?_)
      refine Subscript_ (ldX S ((updM_ne (by decide)).trans ((updM_ne (by decide)).trans ((hm' _ (by decide)).trans m3))) (ldX S (v := .str u' t1) (by rfl) ?_ hk l5) hk l3)
      refine dictItemA S (.tail _ (.tail _ (List.mem_append_right _ (fn _ hD')))) hDd' g1 (fun s S => ?_)
      refine unpackX3 S hh (.tail _ (.tail _ (List.mem_append_right _ (fn _ g3)))) (fun s S => ?_) hk l7 l8 l9
      refine wpAny_execs_cons (wpAny_Expr_any ?_ (by show (cs.kind == .module && (cs.more.any _)) = false; rw [hk]; rfl) (by rfl))
      refine methodCall_S rfl rfl hline2 (ldX S (v := .ref al) ((updM_ne (by decide)).trans ((updM_ne (by decide)).trans ((updM_ne (by decide)).trans ((updM_ne (by decide)).trans ((updM_ne (by decide)).trans ((hm' _ (by decide)).trans m4)))))) ?_ hk l4)
      intro pl
      refine appM S (.tail _ (.head _)) ?_
      refine callWith_method1 ?_ rfl
      refine spliced_more (Tuple_ ?_)
      have hcu : (cutN u').1.length ≤ 900 := hcu
      refine spliced_more (ifNames (u := (cutN u').1) (ya := y) (yb := (cutN u').2) (tu := u3) (ta := u1) (tb := u2) S (by rfl) (by rfl) (by rfl) (by lia) hk l9 l7 l8 (fun ty s S => ?_))
      refine spliced_more (ldX S (v := .str p' t2) (by rfl) ?_ hk l6)
      refine spliced_none (tupS S (fun na s S => ?_))
      refine spliced_none ?_
      refine appendL (l := vs1) (n := n1) S (.tail (.tail .head)) (fun s S => ?_) (by have := hpv.length; have e9 := congrArg List.length er; have e8 := (lsort_perm (key := pkey) (tps at')).length_eq; simp at this e9 e8; lia)
      refine wpAny_execs_nil (hQ' .next _ ⟨_, _, _, .mk (r1 := r1 ++ [(u', p')]) (tc := (na, tupO #[.str (if (cutN u').1 = (ofString "") then (cutN u').2 else y) ty, .str p' t2]) :: tc1) eG (fun y hy => ?_) (er.trans (List.append_cons ..)) hr ?_ rfl, S.perm ((List.Perm.swap ..).trans (List.Perm.cons _ (List.Perm.swap ..)))⟩)
      · have h1 : y ≠ (ofString "v") := fun e => hy (e ▸ by decide)
        have h2 : y ≠ (ofString "k") := fun e => hy (e ▸ by decide)
        have h3 : y ≠ (ofString "uri") := fun e => hy (e ▸ by decide)
        have h4 : y ≠ (ofString "attr_name") := fun e => hy (e ▸ by decide)
        have h5 : y ≠ (ofString "attr_qname") := fun e => hy (e ▸ by decide)
        exact (updM_ne h3).trans ((updM_ne h4).trans ((updM_ne h5).trans ((updM_ne h1).trans ((updM_ne h2).trans (hm' y hy)))))
      · rw [List.map_append, ← List.append_assoc]
        refine (hpv.mono fun p hp => .tail _ hp).app ?_
        show Pairs _ _ [(if (cutN u').1 = (ofString "") then (cutN u').2 else (firstP u' z).getD (ofString ""), p')]
        rw [g2]
        exact .cons (.head _) .nil
  · intro G' m' news' s hJ S
    refine hJ.elim (fun r1 r2 vs1 n1 tc1 eG hm' er hpr hpv en => ?_)
    rw [hpr.nilE, List.append_nil] at er
    rw [← er] at hpv
    rw [← eG] at h
    replace S := S.cast en
    rw [hF] at S
    refine wpAny_execs_nil ?_
    refine h m' vs1 n1 (tc1 ++ ((l, listOf vs0.toArray n0) :: (tc0 ++ [(v, itvO D)]))) s hm' ?_ (by simpa using S)
    exact hpv.mono fun p hp => by
     rcases List.mem_append.mp hp with q | q
     · exact List.mem_append_left _ (List.mem_append_left _ q)
     · exact List.mem_append_right _ q
theorem globComp {K : Frag} {M : Model} {Cc : Addr} {mC : Str → Option Value} {y : Str} {v : Value} {pos : Pos} {scope : Scope} {clc : List (Str × Addr)} {Q : Value → Shared → Prop} (C : Cx K B) (S : St B os G Cc mC news s) (e : nsIn K mainGlobals y = some (some v)) (h : Q v s)
 (hk : scope.kind = .function := by rfl) (hx : (compEnvC scope clc Cc (envX cn cs L a ccd cl)).kindOf y = some .globalImplicit := by rfl) (hd : (y == ("__debug__" : Str)) = false := by decide) : wpAny M A (eval (.Name y pos) (compEnvC scope clc Cc (envX cn cs L a ccd cl))) Q E s :=
 let ⟨_, _, _, _, T⟩ := C.top; Name_function_global (by simp [compEnvC, relabel, hk]) hx (loadGlobal_global (env := compEnvC scope clc Cc (envX cn cs L a ccd cl)) (T.g.keeps S.F.keep) (mg_of C.X T.g e) h) hd
theorem sum_le {c : Nat} : ∀ {l : List Nat}, (∀ n ∈ l, n ≤ c) → l.sum ≤ l.length * c
 | [], _ => by simp
 | n :: r, h => by
  have h1 := h n (.head _)
  have h2 := sum_le (l := r) fun n hn => h n (.tail _ hn)
  rw [List.sum_cons, List.length_cons, Nat.succ_mul]; lia
theorem join_big {l : List Str} {c : Nat} (h : ∀ p ∈ l, p.length ≤ c) (hl : l.length * c ≤ 16000000) : JoinOk (ofString "") l = true ∧ (Txt.join (ofString "") l).length ≤ l.length * c := by
 have e : (ofString "").length = 0 := by decide
 have hs : (l.map (·.length)).sum ≤ l.length * c := by
  have := sum_le (c := c) (l := l.map (·.length)) fun n hn => by
   obtain ⟨p, hp, rfl⟩ := List.mem_map.mp hn
   exact h p hp
  simpa using this
 constructor
 · unfold JoinOk
   rw [StrLaws.joinTotal, e, Nat.mul_zero, Nat.add_zero]
   have : Builtin.Str.tooLong (l.map (·.length)).sum = false := by
    unfold Builtin.Str.tooLong
    exact decide_eq_false (by rw [PySem.sizeLine_eq]; lia)
   rw [this]; rfl
 · have h2 := StrLaws.join_length_le (ofString "") l
   rw [e, Nat.mul_zero, Nat.add_zero, ← StrLaws.glued_eq_join] at h2
   exact Nat.le_trans h2 hs
theorem escA_len {x : Str} (hx : x.length ≤ 20) : (escA x).length ≤ 953000 := by
 have l1 : (ofString "&amp;").length ≤ 5 := by decide
 have l2 : (ofString "&lt;").length ≤ 4 := by decide
 have l3 : (ofString "&quot;").length ≤ 6 := by decide
 have l4 : (ofString "&#x9;").length ≤ 5 := by decide
 have l5 : (ofString "&#xA;").length ≤ 5 := by decide
 have l6 : (ofString "&#xD;").length ≤ 5 := by decide
 have h1 := esc1_length (c := (ofString "&")) hx l1
 have h2 := esc1_length (c := (ofString "<")) h1 l2
 have h3 := esc1_length (c := (ofString "\"")) h2 l3
 have h4 := esc1_length (c := (ofString "\t")) h3 l4
 have h5 := esc1_length (c := (ofString "\n")) h4 l5
 have h6 := esc1_length (c := (ofString "\r")) h5 l6
 unfold escA
 lia
theorem fmtA_len {p : Str × Str} (h1 : p.1.length ≤ 2000) (h2 : p.2.length ≤ 20) : (fmtA p).length ≤ 956000 := by
 have z0 : Str.empty.length = 0 := by decide
 have z1 : (ofString " ").length = 1 := by decide
 have z2 : (ofString "=\"").length = 2 := by decide
 have z3 : (ofString "\"").length = 1 := by decide
 have := escA_len h2
 rw [fmtA, len_app, len_app, len_app, len_app, len_app]; lia
inductive JFm (ps : List (Str × Str)) (G : Array GenState) (news : List Cell) (rem : List Value) (G₁ : Array GenState) (nx : List Cell) (out : List Value) : Prop
 | mk {r1 r2 lt} (eG : G₁ = G) (en : nx = news) (e1 : ps = r1 ++ r2) (h3 : Pairs news rem r2) (eo : out = strValues lt) (h4 : txs lt = r1.map fmtA) : JFm ps G news rem G₁ nx out
theorem JFm.elim {P : Prop} {ps : List (Str × Str)} {rem : List Value} {G₁ : Array GenState} {nx : List Cell} {out : List Value} (h : JFm ps G news rem G₁ nx out) (k : ∀ r1 r2 lt, G₁ = G → nx = news → ps = r1 ++ r2 → Pairs news rem r2 → out = strValues lt → txs lt = r1.map fmtA → P) : P := by
 cases h with
 | mk a1 a2 a3 a4 a5 a6 => exact k _ _ _ a1 a2 a3 a4 a5 a6
set_option maxHeartbeats 2000000 in
theorem fmtJoin {p1 p2 p3 p4 p5 p6 p7 p8 p9 p10 p11 p12 p13 p14 p15 p16 p17 p19 : Pos} {k0 k1 k2 k3 k4 : Nat} {scope : Scope} {al : Addr} {ps : List (Str × Str)} {vs : List Value} {n : Nat} {Q : Value → Shared → Prop} (C : Cx (hd.heap_1 w.params) B) (hh : A.handled = none) (hroom : A.depth + 3 < recursionLimit)
 (S : St B os G L m news s) (m1 : m (ofString "attr_list") = some (.ref al)) (hal : (al, listOf vs.toArray n) ∈ news) (hp : Pairs news vs ps) (hpz : ps.length ≤ 16) (hlen : ∀ p ∈ ps, p.1.length ≤ 2000 ∧ p.2.length ≤ 20)
 (hsc : scope = { kind := .function, names := [((ofString ".0"), .local), ((ofString "k"), .local), ((ofString "v"), .local), ((ofString "_escape_attrib_c14n"), .globalImplicit)], isGenerator := false, isCoroutine := false, more := [] }) (hk : cs.kind = .function) (l1 : (envX cn cs L a ccd cl).kindOf (ofString "attr_list") = some .local) (hline : (p2.endLine == p19.line) = true)
 (h : ∀ t s', St B os G L m news s' → Q (.str (Txt.join (ofString "") (ps.map fmtA)) t) s') :
 wpAny (model progN w) A (eval (.Call (.Attribute (.Constant (.str (ofString "")) k0 p1) (ofString "join") p2) [.ListComp (.JoinedStr [.Constant (.str (ofString " ")) k1 p3, .FormattedValue (.Name (ofString "k") p4) (-1) none p5, .Constant (.str (ofString "=\"")) k2 p6, .FormattedValue (.Call (.Name (ofString "_escape_attrib_c14n") p7) [.Name (ofString "v") p8] [] p9) (-1) none p10, .Constant (.str (ofString "\"")) k3 p11] p12)
  [⟨.Tuple [.Name (ofString "k") p13, .Name (ofString "v") p14] k4 p15, .Name (ofString "attr_list") p16, [], 0⟩] scope p17] [] p19) (envX cn cs L a ccd cl)) Q E s := by
 subst hsc
 refine methodCall_S rfl rfl hline (wpAny_Constant_str ?_)
 intro pl
 refine GM.join ?_
 refine callWith_method1 ?_ rfl
 refine spliced_more ?_
 have S := S.tk (t := s.toks + 1)
 have hvl := hp.length
 refine compP (m := m) (B := B) (os := os) (L := L) hh (by rfl) (by decide) rfl (by decide) (by rfl) (by rfl) (by decide) (by intro _; rfl)
  (JFm ps G news) ?_ ?_ ?_
 · exact fun rem G₁ news₁ out hJ => hJ.elim fun r1 r2 lt _ _ e1 _ eo h4 => by
    have h5 := congrArg List.length h4
    have e2 := congrArg List.length e1
    simp at h5 e2
    rw [eo]
    simp [strValues]
    lia
 · exact fun v rem G₁ news₁ out hJ => hJ.elim fun _ _ _ _ en _ h3 _ _ => h3.consE fun _ _ _ _ _ _ ev _ hx _ => ⟨_, _, _, _, _, ev, en ▸ hx⟩
 · refine ldX S m1 ?_ hk l1
   refine ⟨al, vs, n, G, news, rfl, .mk (r1 := []) (lt := []) rfl rfl rfl hp rfl rfl, S, ?_, ?_, ?_⟩
   · exact fun rem G₁ news₁ out hJ => hJ.elim fun _ _ _ _ en _ _ _ _ => en ▸ hal
   · intro v rem out ta u p t1 t2 acc na Cc oL it oit mC G₁ news₁ s₃ E' hJ hv hta fC c1 c2 S
     refine wabs (fun Q' E2 hQ' => ?_)
     refine hJ.elim (fun r1 r2 lt eG en e1 h3 eo h4 => ?_)
     refine h3.consE (fun a' u' p' t1' t2' r2' ev er2 hx hr => ?_)
     · cases hv.symm.trans ev
       rw [en] at hta S
       rw [er2] at e1
       obtain ⟨eu, ep⟩ := tup2s S (.tail _ (.tail _ (.tail _ hx))) (.tail _ (.tail _ (.tail _ hta)))
       rw [eu] at c1
       rw [ep] at c2
       obtain ⟨q1, q2⟩ := hlen (u', p') (by rw [e1]; simp)
       have q1 : u'.length ≤ 2000 := q1
       have q2 : p'.length ≤ 20 := q2
       have q3 := escA_len q2
       have z0 : Str.empty.length = 0 := by decide
       have z1 : (ofString " ").length = 1 := by decide
       have z2 : (ofString "=\"").length = 2 := by decide
       have z3 : (ofString "\"").length = 1 := by decide
       refine JoinedStr_many (joinParts_cons (wpAny_Constant_str ⟨by decide, joinParts_cons (FormattedValue_plain ?_)⟩))
       have S := S.tk (t := s₃.toks + 1)
       refine ldComp S c1 ?_
       refine formatField_str (fun t5 tk => ⟨by rw [PySem.sizeLine_eq, len_app, len_app]; lia, joinParts_cons (wpAny_Constant_str ⟨by rw [PySem.sizeLine_eq, len_app, len_app, len_app]; lia, joinParts_cons (FormattedValue_plain ?_)⟩)⟩) (by rw [PySem.sizeLine_eq]; lia)
       have S := S.tk (t := tk + 1)
       refine wpAny_Call_ofName (globComp C S (by k_is) ?_)
       refine callWith_K (K := hd.heap_1 w.params) C.X (by k_is) ?_
       refine spliced_more (ldComp S c2 ?_)
       refine spliced_none ⟨S.X C.X, wpAny_call ?_⟩
       refine escapeA_spec q2 C (by first | exact dp0 hroom | exact dp hroom) S (fun t6 s S => ?_)
       refine formatField_str (fun t7 tk => ⟨by rw [PySem.sizeLine_eq, len_app, len_app, len_app, len_app]; lia, joinParts_cons (wpAny_Constant_str ⟨by rw [PySem.sizeLine_eq, len_app, len_app, len_app, len_app, len_app]; lia, joinParts_nil ?_ (by rw [PySem.sizeLine_eq, len_app, len_app, len_app, len_app, len_app]; lia)⟩)⟩) (by rw [PySem.sizeLine_eq]; lia)
       refine hQ' _ _ ⟨G₁, _, .mk (r1 := r1 ++ [(u', p')]) (lt := lt ++ [(fmtA (u', p'), tk + 1)]) eG rfl (by rw [e1]; simp) hr ?_ ?_, S.tk⟩
       · rw [eo]; simp [strValues, fmtA]
       · simp [h4]
   · intro G₁ news₁ out acc na s₃ hJ S
     refine hJ.elim (fun r1 r2 lt eG en e1 h3 eo h4 => ?_)
     rw [h3.nilE, List.append_nil] at e1
     rw [← e1] at h4
     rw [en, eo, eG] at S
     have hj := join_big (l := ps.map fmtA) (c := 956000) (fun p hp => by
      obtain ⟨q, hq, rfl⟩ := List.mem_map.mp hp
      exact fmtA_len (hlen q hq).1 (hlen q hq).2) (by rw [List.length_map]; lia)
     refine spliced_none ?_
     refine SC.join (l := lt) (texts := ps.map fmtA) (listOf_isList (S.get (.head _))) h4 hj.1 (fun t' k => ?_)
     exact h _ _ (S.drop (List.sublist_cons_self _ _)).tk
end
section
variable {w : World} {A : Around} {E : Value → Shared → Prop} {s : Shared} {B : Heap} {os : OsState} {G : Array GenState} {L a : Addr} {m : Str → Option Value} {rest : List Cell} {σ : Wn} {c : Cfg} {x pl : Addr} {b : Ab}
variable {cn : Str} {cs : Scope} {ccd : Value} {cl : List (Str × Addr)}
theorem Wn.newNsl {C : Addr} {r : List Cell} (na : Addr) : ((na, listOf #[] 0) :: (((σ.x, instO C σ.dx) :: (σ.dx, σ.od) :: (σ.da, listOf σ.data.toArray σ.nd) :: (σ.st, listOf (σ.dec.map fun q => Value.ref q.1).toArray σ.nst) :: (σ.ns, listOf ((σ.nsl.map fun q => Value.ref q.1) ++ [Value.ref na]).toArray (σ.nns + 1)) :: (σ.ps, listOf (σ.psv.map Value.bool).toArray σ.nps) ::
 (σ.pm, σ.opm) :: (σ.bm, bmO σ.pl) :: (σ.pl, listOf σ.out.toArray σ.npl) :: (lvC σ.dec ++ (lvC σ.nsl ++ (σ.tus ++ σ.xs)))) ++ r)).Perm ({ σ with nsl := σ.nsl ++ [(na, #[], 0)], nns := σ.nns + 1 }.cells C ++ r) := by
 simp only [Wn.cells, lvC, List.map_append, List.map_cons, List.map_nil, List.cons_append, List.append_assoc, List.nil_append]
 exact permI [.inl _, .inl _, .inl _, .inl _, .inl _, .inl _, .inl _, .inl _, .inl _, .inl _, .inr _, .inr _] _ [0, 1, 2, 3, 4, 5, 6, 7, 8, 9, 10, 11] [1, 2, 3, 4, 5, 6, 7, 8, 9, 10, 11, 0] rfl
theorem Wn.newDec {C : Addr} {r : List Cell} (na : Addr) : ((na, listOf #[] 0) :: (((σ.x, instO C σ.dx) :: (σ.dx, σ.od) :: (σ.da, listOf σ.data.toArray σ.nd) :: (σ.st, listOf ((σ.dec.map fun q => Value.ref q.1) ++ [Value.ref na]).toArray (σ.nst + 1)) :: (σ.ns, listOf (σ.nsl.map fun q => Value.ref q.1).toArray σ.nns) :: (σ.ps, listOf (σ.psv.map Value.bool).toArray σ.nps) ::
 (σ.pm, σ.opm) :: (σ.bm, bmO σ.pl) :: (σ.pl, listOf σ.out.toArray σ.npl) :: (lvC σ.dec ++ (lvC σ.nsl ++ (σ.tus ++ σ.xs)))) ++ r)).Perm ({ σ with dec := σ.dec ++ [(na, #[], 0)], nst := σ.nst + 1 }.cells C ++ r) := by
 simp only [Wn.cells, lvC, List.map_append, List.map_cons, List.map_nil, List.cons_append, List.append_assoc, List.nil_append]
 exact permI [.inl _, .inl _, .inl _, .inl _, .inl _, .inl _, .inl _, .inl _, .inl _, .inl _, .inr _] _ [0, 1, 2, 3, 4, 5, 6, 7, 8, 9, 10] [1, 2, 3, 4, 5, 6, 7, 8, 9, 10, 0] rfl
theorem writeX {p1 p2 p3 : Pos} {e : PySem.Expr} {Q : Flow → Shared → Prop} (S : St B os G L m (σ.cells 150 ++ rest) s) (hW : WIs progN w c x pl b σ) (hout : b.out.length < 10000) (mw : m (ofString "write") = some (.ref σ.bm)) (hk : cs.kind = .function) (lw : (envX cn cs L a ccd cl).kindOf (ofString "write") = some .local)
 (he : starEach [e] (envX cn cs L a ccd cl) = (false, eval e (envX cn cs L a ccd cl)) :: starEach [] (envX cn cs L a ccd cl))
 (h : ∀ s, St B os G L m (σ.cells 150 ++ rest) s → wpAny (model progN w) A (eval e (envX cn cs L a ccd cl)) (fun v s₁ => ∃ y t, v = .str y t ∧ St B os G L m (σ.cells 150 ++ rest) s₁ ∧ ∀ σ' s', Kin σ σ' → WIs progN w c x pl { b with out := b.out ++ [y] } σ' → St B os G L m (σ'.cells 150 ++ rest) s' → Q .next s') E s) :
 wpAny (model progN w) A (exec (.Expr (.Call (.Name (ofString "write") p1) [e] [] p2) p3) (envX cn cs L a ccd cl)) Q E s := by
 obtain ⟨⟨am, nz, ai⟩, e1, e2, hda, hou, hde, hns, hpm, hps, hpn, x1, x2, x3⟩ := id hW
 subst e1 e2
 refine wpAny_Expr_any ?_ (by show (cs.kind == .module && (cs.more.any _)) = false; rw [hk]; rfl) (by rfl)
 refine wpAny_Call_ofName (ldX S mw ?_ hk lw)
 refine callWith_bmS (fs := #[.builtin "list.append", .ref σ.pl]) ?_ he
 refine spliced_more (wpAny_mono (h s S) ?_ fun _ _ z => z) he
 rintro v s₁ ⟨y, t, rfl, S, k⟩
 refine spliced_none ⟨S.get (List.Mem.tail _ (List.Mem.tail _ (List.Mem.tail _ (List.Mem.tail _ (List.Mem.tail _ (List.Mem.tail _ (List.Mem.tail _ (List.Mem.head _)))))))), ?_⟩
 refine bmCallL S (List.Mem.tail _ (List.Mem.tail _ (List.Mem.tail _ (List.Mem.tail _ (List.Mem.tail _ (List.Mem.tail _ (List.Mem.tail _ (List.Mem.head _)))))))) (Up.tail (Up.tail (Up.tail (Up.tail (Up.tail (Up.tail (Up.tail (Up.tail Up.head)))))))) (fun s S => ?_) (by rw [hou.length]; lia)
 exact k { σ with out := σ.out ++ [.str y t], npl := σ.npl + 1 } _ ⟨rfl, rfl⟩ ⟨⟨am, nz, ai.same ⟨rfl, rfl, rfl, rfl, rfl, rfl, rfl, rfl, rfl⟩⟩, rfl, rfl, hda, hou.snoc y t, hde, hns, hpm, hps, hpn, x1, x2, x3⟩ S
end
section
variable {w : World} {A : Around} {E : Value → Shared → Prop} {s : Shared} {B : Heap} {os : OsState} {G : Array GenState} {L : Addr} {m : Str → Option Value} {rest : List Cell} {σ : Wn} {c : Cfg} {x pl : Addr} {b : Ab}
noncomputable def Tb (w : World) (T : List Cell) : Prop := T = [(123, tabObj #[])] ∨ ∃ c' oc, T = [(c', oc), (123, tabObj #[rawInt 139, rawInt 71, .ref c'])] ∧ CodeO oc (ofString "C14NWriterTarget._start.<locals>.<lambda>")
noncomputable abbrev lamQ : Str := (ofString "C14NWriterTarget._start.<locals>.<lambda>")
theorem lamT {T pre : List Cell} {Q : Value → Shared → Prop} {a : Addr} {cs : Scope} {cl : List (Str × Addr)} {params : Arguments} {body : PySem.Expr} {scope : Scope} {el ec : Nat} (H : Lam B 125 123) (S : St B os G L m (pre ++ (T ++ rest)) s) (hT : Tb w T)
 (hcl : closureFor scope (envX (ofString "C14NWriterTarget._start") cs L a (.ref 125) cl) = pure []) (hdef : defaultsOf params (envX (ofString "C14NWriterTarget._start") cs L a (.ref 125) cl) = ([], []))
 (h : ∀ f c' oc T' pm ctv s', Tb w T' → (c', oc) ∈ T' → CodeO oc lamQ → St B os G L m ((f, kla_obj "<lambda>" lamQ params body scope [] pm c' ctv) :: (pre ++ (T' ++ rest))) s' → Q (.ref f) s') :
 wpAny (model progN w) A (eval (.Lambda params body scope ⟨139, 71, el, ec⟩) (envX (ofString "C14NWriterTarget._start") cs L a (.ref 125) cl)) Q E s := by
 have e : (envX (ofString "C14NWriterTarget._start") cs L a (.ref 125) cl).qual ++ "<lambda>" = lamQ := by show (ofString "C14NWriterTarget._start") ++ ".<locals>." ++ "<lambda>" = _; decide +kernel
 rcases hT with rfl | ⟨c', oc, rfl, hc⟩
 · refine lam1 (news' := fun o' => pre ++ ((123, o') :: rest)) (ps := #[]) H S rfl (fun o' => Up.head.pre pre) trivial rfl hcl hdef (fun f c' oc pm ctv s' hco S => ?_)
   rw [e] at hco S
   refine h f c' oc [(c', oc), (123, tabObj #[rawInt 139, rawInt 71, .ref c'])] pm ctv s' (.inr ⟨c', oc, rfl, hco⟩) (.head _) hco ?_
   exact S.perm (List.Perm.cons _ List.perm_middle.symm)
 · refine lam2 (ps := #[rawInt 139, rawInt 71, .ref c']) H S rfl (List.mem_append.mpr (.inr (.tail _ (.head _)))) trivial rfl hcl hdef (fun f pm ctv s' S => ?_)
   rw [e] at S
   exact h f c' oc _ pm ctv s' (.inr ⟨c', oc, rfl, hc⟩) (.head _) hc S
noncomputable def PSane (c : Cfg) : Ab → List Str → Prop
 | b, [] => Sane b
 | b, n :: r => Sane b ∧ NameOk n ∧ ∃ y b1, qnA c b (cutN n).1 (cutN n).2 = some (y, b1) ∧ PSane c b1 r
theorem parseA_cons {c : Cfg} {b b1 : Ab} {n y : Str} {r : List Str} (h : qnA c b (cutN n).1 (cutN n).2 = some (y, b1)) : parseA c b (n :: r) = (parseA c b1 r).map fun z => ((n, y) :: z.1, z.2) := by
 rw [parseA, h]
theorem PSane.names {c : Cfg} : ∀ {l : List Str} {b : Ab}, PSane c b l → ∀ n ∈ l, NameOk n
 | [], _, _, _, h => by cases h
 | _ :: _, _, ⟨_, h1, _, _, _, h2⟩, n, h => by
  rcases List.mem_cons.mp h with rfl | h
  · exact h1
  · exact h2.names n h
structure LvOk (lv : Lvl) : Prop where
 nd : lv.Nodup
 len : lv.length ≤ 9
 uri : ∀ p ∈ lv, p.1.length ≤ 20
inductive JP (w : World) (c : Cfg) (b : Ab) (σ : Wn) (lq : List Str) (F0 rest : List Cell) (rem : List Value) (nx : List Cell) (kvs : Kvs) : Prop
 | mk {lr z b1 σ1 tc T'} (hrem : rem = strValues lr) (hT : Tb w T') (hps : PSane c b1 (txs lr)) (kin : Kin σ σ1) (hW : WIs progN w c σ.x σ.pl b1 σ1) (hpa : parseA c b (lsort nkey lq) = (parseA c b1 (txs lr)).map (fun y => (z ++ y.1, y.2))) (hz : z.map (·.1) ++ txs lr = lsort nkey lq) (htr : Trip tc kvs z) (hzl : ∀ p ∈ z, p.2.length ≤ 1900)
  (hn : nx = F0 ++ (tc ++ (σ1.cells 150 ++ (T' ++ rest)))) : JP w c b σ lq F0 rest rem nx kvs
theorem JP.len {w : World} {c : Cfg} {b : Ab} {σ : Wn} {lq : List Str} {F0 rest : List Cell} {rem : List Value} {nx : List Cell} {kvs : Kvs} (h : JP w c b σ lq F0 rest rem nx kvs) : kvs.length ≤ lq.length := by
 obtain ⟨_, _, _, _, _, _, hz, htr, _, _⟩ := h
 have h2 := congrArg List.length hz
 have h3 := (lsort_perm (key := nkey) lq).length_eq
 have h4 := congrArg List.length htr.keys
 simp at h2 h3 h4
 lia
theorem JP.consE {P : Prop} {w : World} {c : Cfg} {b : Ab} {σ : Wn} {lq : List Str} {F0 rest : List Cell} {v : Value} {rem : List Value} {nx : List Cell} {kvs : Kvs} (h : JP w c b σ lq F0 rest (v :: rem) nx kvs)
 (k : ∀ xn tn lr z b1 σ1 tc T' y b2, v = .str xn tn → rem = strValues lr → Tb w T' → Sane b1 → NameOk xn → qnA c b1 (cutN xn).1 (cutN xn).2 = some (y, b2) → PSane c b2 (txs lr) → Kin σ σ1 → WIs progN w c σ.x σ.pl b1 σ1 → parseA c b (lsort nkey lq) = (parseA c b2 (txs lr)).map (fun u => ((z ++ [(xn, y)]) ++ u.1, u.2)) →
  (z ++ [(xn, y)]).map (·.1) ++ txs lr = lsort nkey lq → Trip tc kvs z → (∀ p ∈ z ++ [(xn, y)], p.2.length ≤ 1900) → nx = F0 ++ (tc ++ (σ1.cells 150 ++ (T' ++ rest))) → P) : P := by
 obtain ⟨hrem, hT, hps, kin, hW, hpa, hz, htr, hzl, hn⟩ := h
 rename_i lr z b1 σ1 tc T'
 cases lr with
 | nil => cases hrem
 | cons p lr =>
  obtain ⟨hsn, hno, y, b2, hqn, hps2⟩ := hps
  obtain ⟨rfl, rfl⟩ : v = .str p.1 p.2 ∧ rem = strValues lr := by simpa [strValues] using hrem
  refine k p.1 p.2 lr z b1 σ1 tc T' y b2 rfl rfl hT hsn hno hqn hps2 kin hW ?_ ?_ htr ?_ hn
  · rw [hpa]
    show (parseA c b1 (p.1 :: txs lr)).map _ = _
    rw [parseA_cons hqn]
    cases parseA c b2 (txs lr) with
    | none => rfl
    | some u => simp
  · rw [← hz]; simp
  · intro q hq
    rcases List.mem_append.mp hq with q' | q'
    · exact hzl q q'
    · rw [List.mem_singleton.mp q']
      exact qnA_len hsn hno.tt hqn
theorem JP.nilE {P : Prop} {w : World} {c : Cfg} {b : Ab} {σ : Wn} {lq : List Str} {F0 rest : List Cell} {nx : List Cell} {kvs : Kvs} (h : JP w c b σ lq F0 rest [] nx kvs)
 (k : ∀ z b1 σ1 tc T', Tb w T' → Sane b1 → Kin σ σ1 → WIs progN w c σ.x σ.pl b1 σ1 → parseA c b (lsort nkey lq) = some (z, b1) → Trip tc kvs z → (∀ p ∈ z, p.2.length ≤ 1900) → nx = F0 ++ (tc ++ (σ1.cells 150 ++ (T' ++ rest))) → P) : P := by
 obtain ⟨hrem, hT, hps, kin, hW, hpa, hz, htr, hzl, hn⟩ := h
 rename_i lr z b1 σ1 tc T'
 cases lr with
 | nil => exact k z b1 σ1 tc T' hT hps kin hW (by rw [hpa]; simp [parseA]) htr hzl hn
 | cons p lr => cases hrem
theorem Trip.new {lq : List Str} {tc : List Cell} {kvs : Kvs} {z : List (Str × Str)} {xn y : Str} {ra : Addr} {t1 t2 t3 : Tok} {r : List Str} (htr : Trip tc kvs z) (hz : (z ++ [(xn, y)]).map (·.1) ++ r = lsort nkey lq) (hnd : lq.Nodup) : Trip ((ra, tupO #[.str y t1, .str (cutN xn).2 t2, .str (cutN xn).1 t3]) :: tc) (stored kvs xn (.ref ra)) (z ++ [(xn, y)]) := by
 have hne : valueAt kvs xn = none := by
  have nd : (lsort nkey lq).Nodup := (lsort_perm _).nodup_iff.mpr hnd
  rw [← hz, List.map_append] at nd
  have h1 := (List.nodup_append.mp (List.nodup_append.mp nd).1).2.2
  unfold valueAt
  have : kvs.find? (fun kv => decide (kv.1 = xn)) = none := by
   refine List.find?_eq_none.mpr fun kv hkv q => ?_
   have hk2 : kv.1 ∈ z.map (·.1) := by rw [← htr.keys]; exact List.mem_map_of_mem hkv
   exact h1 kv.1 hk2 xn (.head _) (by simpa using q)
  rw [this]; rfl
 rw [stored_new hne]
 exact (htr.mono fun p hp => .tail _ hp).snoc (.head _)
theorem pmC {α : Type} (d l i j : α) (F tc x r : List α) : (d :: l :: i :: j :: (F ++ (tc ++ (x ++ r)))).Perm (x ++ (d :: l :: i :: j :: (F ++ (tc ++ r)))) :=
 permI [.inl _, .inl _, .inl _, .inl _, .inr _, .inr _, .inr _] _ [0, 1, 2, 3, 4, 5, 6] [6, 0, 1, 2, 3, 4, 5] rfl
theorem pmD {α : Type} (y d l i j : α) (F tc x r : List α) : (y :: (x ++ (d :: l :: i :: j :: (F ++ (tc ++ r))))).Perm (d :: l :: i :: j :: (F ++ ((y :: tc) ++ (x ++ r)))) :=
 permI [.inl _, .inr _, .inl _, .inl _, .inl _, .inl _, .inr _, .inr _] _ [0, 1, 2, 3, 4, 5, 6, 7] [2, 3, 4, 5, 6, 0, 7, 1] rfl
end
section
variable {w : World} {A : Around} {s : Shared} {R : Result → Shared → Prop} {B : Heap} {os : OsState} {G : Array GenState} {L : Addr} {m : Str → Option Value} {news rest : List Cell} {σ : Wn} {c : Cfg} {x pl : Addr} {b : Ab}
set_option maxHeartbeats 8000000 in
theorem start_in {q0 : Str} {t : Tok} {D nn : Addr} {oD : Obj} {at' : List (Str × Str × Tok)} {T : List Cell} (H : Lam B 125 123) (C : Cx (hd.heap_1 w.params) B) (hroom : A.depth + 5 < recursionLimit) (hh : A.handled = none) (hu : A.units + 20 < cLine)
 (S : St B os G L m (σ.cells 150 ++ (T ++ rest)) s) (hT : Tb w T) (hW : WIs progN w c x pl b σ) (hxe : c.xe = false) (hqa : c.qa = false) (hD : (D, oD) ∈ rest) (hDd : DicO progN w oD (tkv at')) (hDm : (D == sysModules) = false)
 (hps : PSane c b (lsort nkey (q0 :: (tps at').map (·.1)))) (hnk : ((q0 :: (tps at').map (·.1)).map nkey).Nodup) (hnd : (q0 :: (tps at').map (·.1)).Nodup) (hal : at'.length ≤ 6) (hlen : ∀ n ∈ q0 :: (tps at').map (·.1), n.length ≤ 900)
 (hF : Fit b) (hlast : (σ.dec.map (·.1)).getLast? = some nn) (hlv : ∀ z b1, parseA c b (lsort nkey (q0 :: (tps at').map (·.1))) = some (z, b1) → LvOk (b1.dec.getLastD [])) (hval : ∀ p ∈ tps at', p.2.length ≤ 20) (hpl9 : b.pres.length < 900) (hnl9 : b.nss.length < 900)
 (k : ∀ b2 σ' G' T' s', Tb w T' → startInA c b q0 (tps at') = some b2 → WIs progN w c x pl b2 σ' → St B os G' L m (σ'.cells 150 ++ (T' ++ rest)) s' → R (.ok (.ret .none)) s') :
 codeAny (model progN w) A (.call (.ref 126) ⟨[.ref x, .str q0 t, .ref D, .ref nn], []⟩) R s := by
 obtain ⟨e1, e2⟩ : σ.x = x ∧ σ.pl = pl := ⟨hW.ax, hW.apl⟩
 subst e1 e2
 refine hW.amE (fun am nz a => ?_)
 refine' call_fnC (K := hd.heap_1 w.params) (binds := [((ofString "self"), .ref σ.x), ((ofString "tag"), .str q0 t), ((ofString "attrs"), .ref D), ((ofString "new_namespaces"), .ref nn), ((ofString "qname_text"), .none)]) S C.X C.lim ?ho ?hcd ?hroom ?hbind ?hkind ?hnd ?hnd2 (fun L' oL cells s fc_ Y S => ?_) ?hco ?hgen ?hk
 case ho => k_is
 case hcd => k_is
 case hco => rfl
 case hgen => rfl
 case hk => rfl
 case hroom => first | lia | (simp only [depth_deeper]; lia) | (simp only [depth_deeper, depth_in1]; lia)
 case hbind => exact BindsTo.of_defaults (T := 121) rfl (S.X C.X _ _ (by k_is)) rfl rfl rfl
 case hkind => exact kindsX rfl
 case hnd => decide
 case hnd2 => intro n; show [n + 1, n].Nodup; simp
 refine wabs (fun Q0 E0 hQ0 => ?_)
 have Y' : CellsAre _ [((ofString "parse_qname"), L' + 2), ((ofString "self"), L' + 1)] cells := Y
 clear Y
 obtain ⟨o1, o2, ecl, d1, d2⟩ := Y'.two
 clear Y'
 rw [ecl] at S
 have d1 : o1.data = .cell none := d1
 have d2 : o2.data = .cell (some (.ref σ.x)) := d2
 refine nm4 (x1 := (ofString "tag")) (x2 := (ofString "attrs")) (x3 := (ofString "new_namespaces")) (x4 := (ofString "qname_text")) (news := (L' + 2, o1) :: (L' + 1, o2) :: (L, oL) :: (σ.cells 150 ++ (T ++ rest))) S (by rfl) (by rfl) (by rfl) (by rfl) (fun m1 S et ea en eq => ?_)
 show wpAny _ (A.deeper (envX _ _ _ _ _ [((ofString "parse_qname"), L' + 2), ((ofString "self"), L' + 1)])) (execs _ (envX _ _ _ _ _ [((ofString "parse_qname"), L' + 2), ((ofString "self"), L' + 1)])) _ _ _
 have hDr : ∀ {pre : List Cell} {X T : List Cell}, (D, oD) ∈ pre ++ (X ++ (T ++ rest)) := fun {pre X T} => List.mem_append_right _ (List.mem_append_right _ (List.mem_append_right _ hD))
 refine wpAny_execs_cons (wpAny_If (wpAny_isTrue_BoolOp (wpAny_allTrue_And_cons (wpAny_isTrue_Compare1 (Attribute_Name_ (ldCell S rfl (List.Mem.tail _ (List.Mem.head _)) d2 ?_))))))
 refine attrS S C.X (List.Mem.tail _ (List.Mem.tail _ (List.Mem.tail _ (List.Mem.head _)))) (List.Mem.tail _ (List.Mem.tail _ (List.Mem.tail _ (List.Mem.tail _ (List.Mem.head _))))) nz.o (by k_is) (by k_is) (by k_is) (by k_is) (a.exa.trans (by rw [hW.exa hxe])) rfl (fun s S => ?_)
 refine wpAny_Constant_none (wpAny_isNot_plain rfl (wpAny_truthy_bool (ifF rfl (ifF rfl (wpAny_execs_nil ?_)))))
 refine wpAny_execs_cons (wpAny_Assign_Name ?_)
 refine setDispQ (D := D) (k := q0) (t := t) (kvs := tkv at') hh S C.X (by kernel_rfl) rfl rfl rfl (hDr (pre := [(L' + 2, o1), (L' + 1, o2), (L, oL)]) (X := σ.cells 150) (T := T)) hDd hDm (by simpa using (List.nodup_cons.mp hnd).1) (by simpa using hal) (fun a o s S => ldX S et ⟨rfl, S⟩) (fun a o s S => ldX S ea ⟨rfl, S⟩) (fun qs oq lq s hq hlq S => ?_)
 refine stX S (fun s S => ?_)
 refine wpAny_execs_cons (wpAny_Assign_Name (dict0S S C.lim (fun rn s hrm S => ?_)))
 refine stX S (fun s S => ?_)
 have S := S.drop (List.sublist_cons_self _ _)
 refine wpAny_execs_cons (wpAny_If (wpAny_isTrue_Compare1 (ldX S (v := .none) (by exact eq) (wpAny_Constant_none (wpAny_isNot_plain rfl (wpAny_truthy_bool (ifF rfl (wpAny_execs_nil ?_))))))))
 refine wpAny_execs_cons (wpAny_If (wpAny_isTrue_BoolOp (wpAny_allTrue_And_cons (wpAny_isTrue_Compare1 (Attribute_Name_ (ldCell S rfl (List.Mem.tail _ (List.Mem.tail _ (List.Mem.head _))) d2 ?_))))))
 refine attrS S C.X (List.Mem.tail _ (List.Mem.tail _ (List.Mem.tail _ (List.Mem.tail _ (List.Mem.head _))))) (List.Mem.tail _ (List.Mem.tail _ (List.Mem.tail _ (List.Mem.tail _ (List.Mem.tail _ (List.Mem.head _)))))) nz.o (by k_is) (by k_is) (by k_is) (by k_is) (a.fqa.trans (by rw [hW.fqa hqa])) rfl (fun s S => ?_)
 refine wpAny_Constant_none (wpAny_isNot_plain rfl (wpAny_truthy_bool (ifF rfl (ifF rfl ?_))))
 refine wpAny_execs_cons (wpAny_Assign_Name (wpAny_Constant_none (stX S (fun s S => wpAny_execs_nil ?_))))
 refine wpAny_execs_cons (wpAny_Assign_Name (Attribute_Name_ (ldCell S rfl (List.Mem.tail _ (List.Mem.tail _ (List.Mem.head _))) d2 ?_)))
 refine boundS S C.X (List.Mem.tail _ (List.Mem.tail _ (List.Mem.tail _ (List.Mem.tail _ (List.Mem.head _))))) (List.Mem.tail _ (List.Mem.tail _ (List.Mem.tail _ (List.Mem.tail _ (List.Mem.tail _ (List.Mem.head _)))))) nz.o (by k_is) (by k_is) (by k_is) (by k_is) (by k_is) (by k_is) (by rfl) a.m2 (fun bq s S => ?_)
 refine stCell S rfl (fun o' => (Up.tail (Up.tail Up.head))) d1 (fun o1' s d1' S => ?_)
 clear d1
 obtain ⟨F0, hF0⟩ : ∃ F0, F0 = [(bq, methodObj (.ref 90) (.ref σ.x)), (qs, oq), (L' + 2, o1'), (L' + 1, o2), (L, oL)] := ⟨_, rfl⟩
 refine nm6 (x1 := (ofString "tag")) (x2 := (ofString "attrs")) (x3 := (ofString "new_namespaces")) (x4 := (ofString "qname_text")) (x5 := (ofString "qnames")) (x6 := (ofString "qattrs")) (news := F0 ++ (σ.cells 150 ++ (T ++ rest))) (S.cast (by rw [hF0]; rfl)) (by exact et) (by exact ea) (by exact en) (by exact eq) (by rfl) (by rfl) (fun m2 S et ea en eq eqs eqa => ?_)
 have fbq : (bq, methodObj (.ref 90) (.ref σ.x)) ∈ F0 := hF0 ▸ .head _
 have fqs : (qs, oq) ∈ F0 := hF0 ▸ .tail _ (.head _)
 have fo1 : (L' + 2, o1') ∈ F0 := hF0 ▸ .tail _ (.tail _ (.head _))
 have fo2 : (L' + 1, o2) ∈ F0 := hF0 ▸ .tail _ (.tail _ (.tail _ (.head _)))
 have fsub : [(L, oL)].Sublist F0 := hF0 ▸ .cons _ (.cons _ (.cons _ (.cons _ (.refl _))))
 clear hF0
 show wpAny _ _ (execs _ _) _ _ _
 have hlq' : txs lq = q0 :: (tps at').map (·.1) := by rw [hlq]; simp
 have hll : lq.length = at'.length + 1 := by have := congrArg List.length hlq'; simpa using this
 refine wpAny_execs_cons (dictCompN (m := m2) (B := B) (os := os) hh (by rfl) (by rfl) (by decide) rfl (by decide) (by rfl) (by rfl) rfl (by intro _; rfl)
  (fun rem Gx nx kvs => JP w c b σ (txs lq) F0 rest rem nx kvs) (fun _ _ _ _ hJ => Nat.lt_of_le_of_lt hJ.len (by simp only [List.length_map]; lia)) ?_)
 refine wpAny_Call_ofName (bltX C S (by k_is) boot_sorted (by decide) ?_)
 refine callWith_kw ?_
 refine spliced_more (ldX S eqs ?_)
 refine spliced_none (kws_cons ?_)
 refine lamT (pre := F0 ++ σ.cells 150) (T := T) (rest := rest) H (S.cast (List.append_assoc ..).symm) hT (by rfl) (by rfl) (fun f c' oc T' pm ctv s hT' hc' hco S => ?_)
 refine kws_nil ?_
 show wpAny _ _ (call (.builtin "sorted") [.ref qs] [((ofString "key"), .ref f)]) _ _ _
 refine sortedQ (a := qs) (o := oq) (lt := lq) (key := nkey) hh (by simp only [units_deeper, Around.in1_units]; lia) S (.tail _ (List.mem_append_left _ (List.mem_append_left _ fqs))) hq (by lia) (by lia) (by rw [hlq']; exact hnk) (fun xn tn own s hxn S => ?_) (fun l n l' s hl' S => ?_)
 · refine wpAny_call (call_lam S C.lim (List.mem_append_right _ (.head _)) (List.mem_append_right _ (.tail _ (List.mem_append_right _ (List.mem_append_left _ hc')))) hco (by first | exact dp hroom | (simp only [depth_deeper]; lia)) (by rfl) (binds := [((ofString "n"), .str xn tn)]) (locs rfl) (fun L2 oL2 s f2 S => ?_) rfl rfl rfl (by decide))
   refine methodCall_KW (ld S.F (by rfl) (GM.split (callWith_method1 ?_ rfl)))
   refine spliced_more (wpAny_Constant_str (spliced_more (wpAny_Constant_int (spliced_none ?_))))
   refine split2S S.tk.tk (by decide) (by decide) (by have := hlen xn (by rw [← hlq']; exact hxn); lia) (fun ls sa s els S => ?_)
   exact ⟨sa, ls, 0, rfl, els, (S.perm (List.Perm.swap ..)).back f2⟩
 · have S := S.drop (List.Sublist.cons_cons _ (List.sublist_cons_self _ _))
   refine ⟨l, strValues l', n, G, F0 ++ ([] ++ (σ.cells 150 ++ (T' ++ rest))), rfl, .mk (lr := l') (z := []) rfl hT' (by rw [hl', hlq']; exact hps) Kin.refl hW (by rw [hl']; cases parseA c b (lsort nkey (txs lq)) <;> rfl) (by rw [hl']; rfl) .nil (fun _ h => nomatch h) rfl, S.castC (List.append_assoc ..), ?_, ?_⟩
   · intro v rem kvs C' D' oD' oL' it oit mC Gx nx s E' hJ fL' hmc S
     refine hJ.consE (fun xn tn lr z b1 σ1 tc T2 y b2 ev er hT2 hsn hno hqn hps2 kin1 hW1 hpa hz htr hzl enx => ?_)
     replace hmc := hmc.trans (congrArg some ev)
     replace S := S.perm (List.Perm.of_eq (congrArg (fun z => (D', oD') :: (L', oL') :: (it, oit) :: (l, listOf (strValues l').toArray n) :: z) enx))
     refine ldComp S hmc ?_
     refine wabs (fun Q' E2 hQ' => ?_)
     refine wpAny_Call_ofName (ldCompCell S (c := L' + 2) (by rfl) (.tail _ (.tail _ (.tail _ (.tail _ (List.mem_append_left _ fo1))))) d1' ?_ (by rfl))
     refine callWith_M (K := hd.heap_1 w.params) C.X S.N (g := 90) (self := .ref σ.x) (.tail _ (.tail _ (.tail _ (.tail _ (List.mem_append_left _ fbq))))) (by k_is) ?_
     refine spliced_more (ldComp S hmc ?_)
     refine spliced_none ⟨methP S.N (.tail _ (.tail _ (.tail _ (.tail _ (List.mem_append_left _ fbq))))) (S.X C.X), call_meth S.N (f := .ref 90) (self := .ref σ.x) (.tail _ (.tail _ (.tail _ (.tail _ (List.mem_append_left _ fbq))))) ?_⟩
     show codeAny _ _ (.call (.ref 90) ⟨[.ref σ.x, .str xn tn], []⟩) _ _
     refine qname_at C (by first | exact dp hroom | (simp only [depth_deeper]; lia)) hh (S.perm (pmC ..)) hW1 hno hsn (by rw [hqn]; exact fun e => nomatch e) (fun y' b' σ2 G2 qa t1 t2 t3 s kin2 hqn' hW2 S => ?_)
     obtain ⟨ey, eb⟩ := Prod.mk.inj (Option.some.inj (hqn'.symm.trans hqn))
     rw [ey] at S
     rw [eb] at hW2
     exact hQ' _ _ ⟨xn, tn, G2, _, rfl, .mk er hT2 hps2 (kin1.trans kin2) hW2 hpa hz (htr.new hz (by rw [hlq']; exact hnd)) hzl rfl, S.perm (pmD ..)⟩
   · intro Gx nx kvs D' oD' s hJ hD' S
     refine hJ.nilE (fun z b1 σ1 tc T2 hT2 hsn1 kin1 hW1 hpa htr hzl enx => ?_)
     have hpa1 : parseA c b (lsort nkey (q0 :: (tps at').map (·.1))) = some (z, b1) := by rw [← hlq']; exact hpa
     have hlvk := hlv z b1 hpa1
     obtain ⟨o, o9⟩ := parseA_same hpa1
     have hnm := hps.names
     have hmemz : ∀ n, n ∈ q0 :: (tps at').map (·.1) → n ∈ z.map (·.1) := fun n hn => by rw [o9]; exact (lsort_perm _).mem_iff.mpr hn
     replace S := S.castC enx
     have S : St B os Gx L' _ (σ1.cells 150 ++ ((D', oD') :: (F0 ++ (tc ++ (T2 ++ rest))))) s := S.perm (permI [.inl _, .inr _, .inr _, .inr _] _ [0, 1, 2, 3] [3, 0, 1, 2] rfl)
     obtain ⟨v1, lv, hbd⟩ : ∃ v lv, b1.dec = v ++ [lv] := by
      rcases List.eq_nil_or_concat b1.dec with h | ⟨i, q, h⟩
      · exact absurd h hsn1.dn
      · exact ⟨i, q, by rw [h, List.concat_eq_append]⟩
     have hlvE : b1.dec.getLastD [] = lv := by rw [hbd]; simp
     rw [hlvE] at hlvk
     obtain ⟨⟨am1, nz1, a1⟩, f1, f2, hda1, hou1, hde1, hns1, hpm1, hps1', hpn1, x11, x21, x31⟩ := id hW1
     rw [hbd] at hde1
     obtain ⟨init, q, hq1, hl1, hl2⟩ := hde1.unsnoc
     have hqn1 : q.1 = nn := by
      have h1 := kin1.das
      rw [← h1, hq1] at hlast
      simpa using hlast
     have hnnm : (nn, listOf q.2.1 q.2.2) ∈ σ1.cells 150 := by
      rw [← hqn1]
      exact .tail _ (.tail _ (.tail _ (.tail _ (.tail _ (.tail _ (.tail _ (.tail _ (.tail _ (List.mem_append_left _ (List.mem_map.mpr ⟨q, by rw [hq1]; simp, rfl⟩))))))))))
     obtain ⟨F2, hF2⟩ : ∃ F2, F2 = (D', oD') :: (F0 ++ (tc ++ (T2 ++ rest))) := ⟨_, rfl⟩
     rw [← hF2] at S
     have hoL : (L' + 1, o2) ∈ F2 := hF2 ▸ .tail _ (List.mem_append_left _ fo2)
     have hDF : (D', oD') ∈ F2 := hF2 ▸ .head _
     have hDr2 : (D, oD) ∈ F2 := hF2 ▸ .tail _ (List.mem_append_right _ (List.mem_append_right _ (List.mem_append_right _ hD)))
     have hsub0 : ((L, oL) :: (T2 ++ rest)).Sublist F2 := hF2 ▸ .cons _ (fsub.append (List.sublist_append_right tc _))
     have htrF : Trip F2 kvs z := htr.mono fun p hp => hF2 ▸ .tail _ (List.mem_append_right _ (List.mem_append_left _ hp))
     refine wpAny_execs_cons (declsStmt (m := updM m2 (ofString "parsed_qnames") (.ref D')) (nn := nn) (its := q.2.1) (n := q.2.2) (lv := lv) hh S (by exact en) (List.mem_append_left _ hnnm) (hl2.mono fun p hp => List.mem_append_left _ (Wn.tu hp)) hlvk.nd
      (fun p hp => hsn1.po p (by rw [hbd]; exact List.mem_flatten.mpr ⟨lv, by simp, hp⟩)) (by have := hlvk.len; lia) rfl rfl rfl rfl rfl rfl rfl (fun al vs n1 tc1 s hpr1 S => ?_))
     refine wpAny_execs_cons (attrsStmt (D := D) (D' := D') (al := al) (at' := at') (kvs := kvs) (z := z) C hh S (by exact ea) (by rfl) (by rfl) (List.mem_append_right _ (List.mem_append_right _ hDr2)) hDd hDm (by lia) (List.mem_append_right _ (List.mem_append_right _ hDF)) hD' (htrF.mono fun p hp => List.mem_append_right _ (List.mem_append_right _ hp))
      (fun p hp => ⟨hmemz _ (.tail _ (List.mem_map_of_mem hp)), (hnm p.1 ((lsort_perm _).mem_iff.mpr (.tail _ (List.mem_map_of_mem hp)))).ut⟩) hpr1 (by rw [declL, (lsort_perm _).length_eq, List.length_map]; have := hlvk.len; lia) ?_ rfl rfl rfl rfl rfl rfl rfl rfl rfl rfl rfl rfl (fun m3 vs2 n2 tc2 s hm3 hpr2 S => ?_))
     · intro Gy my newsy sy Ey Qy Sy hmy ky
       refine wpAny_If (wpAny_isTrue_BoolOp (wpAny_allTrue_And_cons (wpAny_isTrue_Compare1 (ldX Sy (v := .none) ((hmy _ (by decide)).trans (by exact eqa)) (wpAny_Constant_none (wpAny_isNot_plain rfl (wpAny_truthy_bool (ifF rfl (ifF rfl (wpAny_execs_nil ?_))))))))))
       exact ky _ Sy
     have et3 : m3 (ofString "tag") = some (.str q0 t) := (hm3 _ (by decide)).trans (by exact et)
     have ea3 : m3 (ofString "attrs") = some (.ref D) := (hm3 _ (by decide)).trans (by exact ea)
     have eq3 : m3 (ofString "qname_text") = some .none := (hm3 _ (by decide)).trans (by exact eq)
     have ep3 : m3 (ofString "parsed_qnames") = some (.ref D') := (hm3 _ (by decide)).trans (by rfl)
     have el3 : m3 (ofString "attr_list") = some (.ref al) := (hm3 _ (by decide)).trans (by rfl)
     have S : St B os Gx L' m3 (σ1.cells 150 ++ ((al, listOf vs2.toArray n2) :: (tc2 ++ (tc1 ++ F2)))) s := S.perm (permI [.inl _, .inr _, .inr _, .inr _] _ [0, 1, 2, 3] [3, 0, 1, 2] rfl)
     generalize hF1 : ((al, listOf vs2.toArray n2) :: (tc2 ++ (tc1 ++ F2)) : List Cell) = F1 at S
     have halF : (al, listOf vs2.toArray n2) ∈ F1 := hF1 ▸ .head _
     have hprF : Pairs F1 vs2 (declL lv ++ attrA z (tps at')) := hpr2.mono fun p hp => hF1 ▸ .tail _ (by
      rcases List.mem_append.mp hp with h | h
      · exact List.mem_append_left _ h
      · exact List.mem_append_right _ (List.mem_append_left _ h))
     have up0 : ∀ p, p ∈ F2 → p ∈ F1 := fun p hp => hF1 ▸ .tail _ (List.mem_append_right _ (List.mem_append_right _ hp))
     have hsub1 : ((L, oL) :: (T2 ++ rest)).Sublist F1 := hF1 ▸ .cons _ (hsub0.trans ((List.sublist_append_right tc1 F2).trans (List.sublist_append_right tc2 _)))
     have hat : (tps at').length = at'.length := by simp
     have hlall : ∀ p ∈ declL lv ++ attrA z (tps at'), p.1.length ≤ 2000 ∧ p.2.length ≤ 20 := by
      intro p hp
      rcases List.mem_append.mp hp with h | h
      · have h' := (lsort_perm _).mem_iff.mp h
        obtain ⟨r, hr, rfl⟩ := List.mem_map.mp h'
        have z6 : (txt "xmlns:").length = 6 := by decide
        have := (hsn1.po r (by rw [hbd]; exact List.mem_flatten.mpr ⟨lv, by simp, hr⟩)).2
        exact ⟨by show (txt "xmlns:" ++ r.2).length ≤ 2000; rw [len_app]; lia, hlvk.uri r hr⟩
      · obtain ⟨r, hr, rfl⟩ := List.mem_map.mp h
        have hr' : r ∈ tps at' := (lsort_perm _).mem_iff.mp hr
        refine ⟨?_, hval r hr'⟩
        show (if (cutN r.1).1 = (ofString "") then (cutN r.1).2 else (firstP r.1 z).getD (ofString "")).length ≤ 2000
        split
        · have := (hnm r.1 ((lsort_perm _).mem_iff.mpr (.tail _ (List.mem_map_of_mem hr')))).tt
          lia
        · obtain ⟨_, y, _, _, _, _, g2, _⟩ := htrF.at (hmemz _ (.tail _ (List.mem_map_of_mem hr')))
          rw [g2]
          obtain ⟨p', hp', e'⟩ := List.mem_map.mp (firstP_mem g2)
          have := hzl p' hp'
          show y.length ≤ 2000
          rw [← e']; lia
     have hln : (declL lv ++ attrA z (tps at')).length ≤ 16 := by
      have h1 : (declL lv).length = lv.length := by rw [declL, (lsort_perm _).length_eq, List.length_map]
      have h2 : (attrA z (tps at')).length = at'.length := by rw [attrA, List.length_map, (lsort_perm _).length_eq, hat]
      have := hlvk.len
      rw [List.length_append, h1, h2]; lia
     generalize hDAL : declL lv ++ attrA z (tps at') = dal at hprF hlall hln
     clear hm3 hpr1 hpr2 hpa hF1
     refine wpAny_execs_cons (wpAny_Assign_Name (methodCall_KW (ldX S ea3 (dictGetM S (List.mem_append_right _ (up0 _ hDr2)) hDd (callWith_method1 (spliced_more (wpAny_Constant_str (spliced_none (dictGet S.tk (List.mem_append_right _ (up0 _ hDr2)) hDd hDm (fun s S => ?_))))) rfl)))))
     refine stX S (fun s S => ?_)
     refine stmt_cut2 (fun s => ∃ n, St B os Gx L' (updM m3 (ofString "space_behaviour") ((valueAt (tkv at') xsp).getD .none)) ({ σ1 with psv := σ1.psv ++ [keepsA (lastP b) (tps at')], nps := n }.cells 150 ++ F1) s) ?_ ?_
     · intro Qc hQc
       refine wpAny_Expr_any ?_ (by rfl) (by rfl)
       obtain ⟨pv, pb, hpb⟩ : ∃ v q, b1.pres = v ++ [q] := by
        rcases List.eq_nil_or_concat b1.pres with h | ⟨i, q, h⟩
        · exact absurd (o.pres.symm.trans h) hF.pr
        · exact ⟨i, q, by rw [h, List.concat_eq_append]⟩
       have hpb0 : lastP b = pb := lastP_snoc (o.pres.symm.trans hpb)
       have hpvl : σ1.psv.map Value.bool = pv.map Value.bool ++ [Value.bool pb] := by rw [hps1', hpb]; simp
       have hp9 : b1.pres.length < 900 := by rw [o.pres]; exact hpl9
       refine methodCall_KW (Attribute_Name_ (ldCell S rfl (List.mem_append_right _ (up0 _ hoL)) d2 ?_))
       refine attrN S C.X f1 nz1.o (by k_is) (by k_is) (by k_is) (by k_is) a1.psp rfl (fun s S => ?_)
       refine appM S (List.Mem.tail _ (List.Mem.tail _ (List.Mem.tail _ (List.Mem.tail _ (List.Mem.tail _ (List.Mem.head _)))))) (callWith_method1 ?_ rfl)
       generalize hkb : keepsA (lastP b) (tps at') = kb at hQc
       refine spliced_more (wpAny_mono (Q := fun v s => v = .bool kb ∧ St B os Gx L' (updM m3 (ofString "space_behaviour") ((valueAt (tkv at') xsp).getD .none)) (σ1.cells 150 ++ F1) s) ?_ ?_ (fun _ _ z => z))
       · rcases valP (uri := xsp) (kvs := at') with ⟨sv, st', hv1, hv2⟩ | ⟨hv1, hv2⟩
         · rw [hv2] at S ⊢
           refine wpAny_IfExp (wpAny_isTrue_value (ldX S (v := .str sv st') (by rfl) ?_))
           have hsl : sv.length ≤ 20 := by
            obtain ⟨p', hp', e'⟩ := List.mem_map.mp (firstP_mem hv1)
            rw [← e']; exact hval p' hp'
           refine truthyT S (by lia) (fun s S => ?_)
           by_cases hse : sv = Str.empty
           · refine ifF (by simpa using hse) ?_
             have hkeep : kb = pb := by
              rw [← hkb]
              unfold keepsA
              rw [hv1]
              show (if sv = (ofString "") then _ else _) = _
              rw [if_pos (show sv = (ofString "") from hse), hpb0]
             refine Subscript_ (Attribute_Name_ (ldCell S rfl (List.mem_append_right _ (up0 _ hoL)) d2 ?_))
             refine attrN S C.X f1 nz1.o (by k_is) (by k_is) (by k_is) (by k_is) a1.psp rfl (fun s S => ?_)
             refine minus1 S (fun tt s S => ?_)
             exact lastS (l := pv.map Value.bool) (x := .bool pb) (n := σ1.nps) S (by rw [← hpvl]; exact (List.Mem.tail _ (List.Mem.tail _ (List.Mem.tail _ (List.Mem.tail _ (List.Mem.tail _ (List.Mem.head _))))))) ⟨by rw [hkeep], S⟩
           · refine ifT (by simpa using hse) ?_
             refine wpAny_Compare1 (ldX S (v := .str sv st') (by rfl) (wpAny_Constant_str (PySem.P.eq_str ⟨?_, S.tk (t := s.toks + 1)⟩)))
             rw [← hkb]
             unfold keepsA
             rw [hv1]
             show _ = Value.bool (if sv = (ofString "") then _ else decide (sv = (ofString "preserve")))
             rw [if_neg (show ¬ sv = (ofString "") from hse), str_beq]
         · rw [hv2] at S ⊢
           refine wpAny_IfExp (wpAny_isTrue_value (ldX S (v := .none) (by rfl) (truthy_none (ifF rfl ?_))))
           have hkeep : kb = pb := by
            rw [← hkb]
            unfold keepsA
            rw [hv1, hpb0]
           refine Subscript_ (Attribute_Name_ (ldCell S rfl (List.mem_append_right _ (up0 _ hoL)) d2 ?_))
           refine attrN S C.X f1 nz1.o (by k_is) (by k_is) (by k_is) (by k_is) a1.psp rfl (fun s S => ?_)
           refine minus1 S (fun tt s S => ?_)
           exact lastS (l := pv.map Value.bool) (x := .bool pb) (n := σ1.nps) S (by rw [← hpvl]; exact (List.Mem.tail _ (List.Mem.tail _ (List.Mem.tail _ (List.Mem.tail _ (List.Mem.tail _ (List.Mem.head _))))))) ⟨by rw [hkeep], S⟩
       · rintro _ s ⟨rfl, S⟩
         refine spliced_none ?_
         refine appendL (l := σ1.psv.map Value.bool) (n := σ1.nps) (news' := { σ1 with psv := σ1.psv ++ [kb], nps := σ1.nps + 1 }.cells 150 ++ F1) S (by rw [show σ1.psv.map Value.bool ++ [Value.bool kb] = (σ1.psv ++ [kb]).map Value.bool from by simp]; exact (Up.tail (Up.tail (Up.tail (Up.tail (Up.tail Up.head)))))) (fun s S => hQc _ ⟨σ1.nps + 1, S⟩) (by rw [List.length_map, hps1']; lia)
     · rintro s ⟨nps, S⟩
       have hWp : WIs progN w c σ.x σ.pl { b1 with pres := b1.pres ++ [keepsA (lastP b) (tps at')] } { σ1 with psv := σ1.psv ++ [keepsA (lastP b) (tps at')], nps := nps } := ⟨⟨am1, nz1, a1.same ⟨rfl, rfl, rfl, rfl, rfl, rfl, rfl, rfl, rfl⟩⟩, f1, f2, hda1, hou1, by rw [← hbd] at hde1; exact hde1, hns1, hpm1, by show σ1.psv ++ _ = b1.pres ++ _; rw [hps1'], hpn1, x11, x21, x31⟩
       refine wpAny_execs_cons (wpAny_Assign_Name (Attribute_Name_ (ldCell S rfl (List.mem_append_right _ (up0 _ hoL)) d2 ?_)))
       refine attrN S C.X f1 nz1.o (by k_is) (by k_is) (by k_is) (by k_is) a1.write rfl (fun s S => ?_)
       refine stX S (fun s S => ?_)
       refine nm5 (x1 := (ofString "tag")) (x2 := (ofString "qname_text")) (x3 := (ofString "parsed_qnames")) (x4 := (ofString "attr_list")) (x5 := (ofString "write")) (news := { σ1 with psv := σ1.psv ++ [keepsA (lastP b) (tps at')], nps := nps }.cells 150 ++ F1) S (by exact et3) (by exact eq3) (by exact ep3) (by exact el3) (by rfl) (fun m4 S et4 eq4 ep4 el4 ew4 => ?_)
       obtain ⟨τ, hτ, hτb⟩ : ∃ τ : Wn, τ = { σ1 with psv := σ1.psv ++ [keepsA (lastP b) (tps at')], nps := nps } ∧ τ.bm = σ1.bm := ⟨_, rfl, rfl⟩
       rw [← hτ] at S hWp
       rw [← hτb] at ew4
       clear hτ hτb
       obtain ⟨b2, hb2⟩ : ∃ b2 : Ab, b2 = { b1 with pres := b1.pres ++ [keepsA (lastP b) (tps at')] } := ⟨_, rfl⟩
       rw [← hb2] at hWp
       have hb2o : b2.out = b1.out := by rw [hb2]
       have hout : b2.out.length < 9000 := by rw [hb2o, o.out]; exact hF.out
       obtain ⟨ra, y, u1, u2, u3, g1, g2, g3⟩ := htrF.at (hmemz q0 (.head _))
       have hyl : y.length ≤ 1900 := by
        obtain ⟨p', hp', e'⟩ := List.mem_map.mp (firstP_mem g2)
        rw [← e']; exact hzl p' hp'
       refine wpAny_execs_cons (writeX S hWp (by lia) ew4 rfl rfl rfl (fun s S => ?_))
       refine wpAny_BinOp (wpAny_Constant_str (Subscript_ (Subscript_ (ldX S.tk ep4 (ldX S.tk et4 ?_)))))
       refine dictItem (v := .ref ra) S.tk (List.mem_append_right _ (up0 _ hDF)) hD' g1 (fun s S => ?_)
       refine wpAny_Constant_int (tupItem (i := 0) S.tk (List.mem_append_right _ (up0 _ g3)) rfl ?_)
       refine add_str (fun t4 tk => ?_) (by have : (ofString "<").length = 1 := by decide
                                            rw [PySem.sizeLine_eq]; lia)
       refine ⟨_, _, rfl, S.tk.tk, fun σ3 s kin3 hW3 S => ?_⟩
       have hvs2 := hprF.length
       refine stmt_cut2 (fun s => ∃ σ4, σ4.bm = σ3.bm ∧ WIs progN w c σ.x σ.pl { b2 with out := b2.out ++ [(ofString "<") ++ y] ++ (if dal = [] then [] else [Txt.join (ofString "") (dal.map fmtA)]) } σ4 ∧ St B os Gx L' m4 (σ4.cells 150 ++ F1) s) ?_ ?_
       · intro Qc hQc
         refine wpAny_If (wpAny_isTrue_value (ldX S el4 ?_))
         refine truthyL (l := vs2) (n := n2) S (List.mem_append_right _ halF) (by lia) (fun s S => ?_)
         by_cases hd0 : dal = []
         · have hv0 : vs2 = [] := List.length_eq_zero_iff.mp (by rw [hvs2, hd0]; rfl)
           refine ifF (by rw [hv0]; rfl) (wpAny_execs_nil (hQc _ ⟨σ3, rfl, ?_, S⟩))
           rw [if_pos hd0, List.append_nil]
           exact hW3
         · refine ifT (by cases hv : vs2 with
            | nil => rw [hv] at hvs2; exact absurd (List.length_eq_zero_iff.mp hvs2.symm) hd0
            | cons _ _ => rfl) ?_
           refine wpAny_execs_cons (writeX S hW3 (by show (b2.out ++ [_]).length < _; rw [List.length_append]; simp; lia) (by rw [kin3.bm]; exact ew4) rfl rfl rfl (fun s S => ?_))
           refine fmtJoin C hh (by first | exact dp hroom | (simp only [depth_deeper]; lia)) S el4 (List.mem_append_right _ halF) (hprF.mono fun p hp => List.mem_append_right _ hp) hln hlall rfl rfl rfl rfl (fun t5 s S => ?_)
           refine ⟨_, _, rfl, S, fun σ4 s kin4 hW4 S => wpAny_execs_nil (hQc _ ⟨σ4, kin4.bm, ?_, S⟩)⟩
           rw [if_neg hd0]
           exact hW4
       · rintro s ⟨σ4, hbm4, hW4, S⟩
         generalize hO4 : b2.out ++ [(ofString "<") ++ y] ++ (if dal = [] then [] else [Txt.join (ofString "") (dal.map fmtA)]) = O4 at hW4
         have hO4l : O4.length < 9100 := by
          rw [← hO4, List.length_append, List.length_append]
          have : (if dal = [] then [] else [Txt.join (ofString "") (dal.map fmtA)]).length ≤ 1 := by split <;> simp
          simp only [List.length_cons, List.length_nil]; lia
         refine wpAny_execs_cons (writeX S hW4 (by show O4.length < _; lia) (by rw [hbm4, kin3.bm]; exact ew4) rfl rfl rfl (fun s S => ?_))
         refine wpAny_Constant_str ⟨_, _, rfl, S.tk, fun σ5 s kin5 hW5 S => ?_⟩
         refine wpAny_execs_cons (wpAny_If (wpAny_isTrue_Compare1 (ldX S (v := .none) (by exact eq4) (wpAny_Constant_none (wpAny_isNot_plain rfl (wpAny_truthy_bool (ifF rfl (wpAny_execs_nil ?_))))))))
         obtain ⟨⟨am5, nz5, a5⟩, h1, h2, hda5, hou5, hde5, hns5, hpm5, hps5, hpn5, y1, y2, y3⟩ := id hW5
         refine wpAny_execs_cons (plainObj_wpAny_Assign_Attribute (wpAny_Constant_bool (ldCell S rfl (List.mem_append_right _ (up0 _ hoL)) d2 ?_)))
         refine setN S C.X h1 nz5 a5.seen (by k_is) (by k_is) (by k_is) (by k_is) (fun od' s nz6 S => ?_)
         have a6 := a5.putSeen (seen' := true)
         refine wpAny_execs_cons (wpAny_Expr_any ?_ (by rfl) (by rfl))
         refine methodCall_KW (Attribute_Name_ (ldCell S rfl (List.mem_append_right _ (up0 _ hoL)) d2 ?_))
         refine attrN S C.X h1 nz6.o (by k_is) (by k_is) (by k_is) (by k_is) a6.nss rfl (fun s S => ?_)
         refine appM S (List.Mem.tail _ (List.Mem.tail _ (List.Mem.tail _ (List.Mem.tail _ (List.Mem.head _))))) (callWith_method1 ?_ rfl)
         refine spliced_more (List_ (spliced_none (listS S (fun na s S => spliced_none ?_))))
         have hn5 : σ5.nsl.length < 900 := by
          have := hns5.length
          have h9 : b2.nss.length < 900 := by rw [hb2]; show b1.nss.length < 900; rw [o.nss]; exact hnl9
          rw [this]; exact h9
         refine appendL S (Up.tail (Up.tail (Up.tail (Up.tail (Up.tail Up.head))))) (fun s S => ?_) (by simp; lia)
         refine wpAny_execs_nil (hQ0 _ _ ?_)
         have S := S.perm (Wn.newNsl (σ := { σ5 with od := od' }) na)
         refine k { b2 with out := O4 ++ [(ofString ">")], nss := b2.nss ++ [[]], seen := true } { σ5 with od := od', nsl := σ5.nsl ++ [(na, #[], 0)], nns := σ5.nns + 1 } Gx T2 _ hT2 ?_ ⟨⟨_, nz6, a6.same ⟨rfl, rfl, rfl, rfl, rfl, rfl, rfl, rfl, rfl⟩⟩, h1, h2, hda5, hou5, hde5, hns5.snoc .nil, hpm5, hps5, hpn5, y1, y2, y3⟩ (St.back (St.rise (S.drop (List.Sublist.append (List.Sublist.refl _) hsub1))) fc_)
         subst hb2
         simp only [startInA, hpa1, Option.map_some, g2, Option.getD_some, hlvE]
         congr 1
         rw [← hO4, ← hDAL]
         simp only [openA, List.append_assoc]
         rfl
end
section
variable {w : World} {A : Around} {s : Shared} {R : Result → Shared → Prop} {B : Heap} {os : OsState} {G : Array GenState} {L : Addr} {m : Str → Option Value} {rest W : List Cell} {σ : Wn} {c : Cfg} {x pl : Addr} {b : Ab}
noncomputable def opened (c : Cfg) (b : Ab) : Ab := { flushed c b with dec := (flushed c b).dec ++ [[]] }
noncomputable def startA (c : Cfg) (b : Ab) (q : Str) (at' : List (Str × Str)) : Option Ab := startInA c (opened c b) q at'
structure StartOk (c : Cfg) (b : Ab) (q0 : Str) (at' : List (Str × Str)) : Prop where
 fit : Fit b
 ps : PSane c (opened c b) (lsort nkey (q0 :: at'.map (·.1)))
 nk : ((q0 :: at'.map (·.1)).map nkey).Nodup
 nd : (q0 :: at'.map (·.1)).Nodup
 al : at'.length ≤ 6
 len : ∀ n ∈ q0 :: at'.map (·.1), n.length ≤ 900
 lv : ∀ z b1, parseA c (opened c b) (lsort nkey (q0 :: at'.map (·.1))) = some (z, b1) → LvOk (b1.dec.getLastD [])
 val : ∀ p ∈ at', p.2.length ≤ 20
 out : b.out.length < 8900
 prl : b.pres.length < 900
 nsl : b.nss.length < 900
 dcl : b.dec.length < 900
set_option maxHeartbeats 4000000 in
theorem start_spec {q0 : Str} {t : Tok} {D : Addr} {oD : Obj} {at' : List (Str × Str × Tok)} {T : List Cell} (H : Lam B 125 123) (C : Cx (hd.heap_1 w.params) B) (hroom : A.depth + 6 < recursionLimit) (hh : A.handled = none) (hu : A.units + 40 < cLine)
 (S : St B os G L m (σ.cells 150 ++ (T ++ rest)) s) (hT : Tb w T) (hW : WIs progN w c x pl b σ) (hxe : c.xe = false) (hqa : c.qa = false) (hD : (D, oD) ∈ rest) (hDd : DicO progN w oD (tkv at')) (hDm : (D == sysModules) = false) (hok : StartOk c b q0 (tps at'))
 (k : ∀ b2 σ' G' T' s', Tb w T' → startA c b q0 (tps at') = some b2 → WIs progN w c x pl b2 σ' → St B os G' L m (σ'.cells 150 ++ (T' ++ rest)) s' → R (.ok (.ret .none)) s') :
 codeAny (model progN w) A (.call (.ref 120) ⟨[.ref x, .str q0 t, .ref D], []⟩) R s := by
 obtain ⟨⟨am, nz, a⟩, e1, e2, _, _, _, _, _, _, _, x1, x2, x3⟩ := id hW
 have ho := nz.o
 refine' call_fn (K := hd.heap_1 w.params) (binds := [((ofString "self"), .ref x), ((ofString "tag"), .str q0 t), ((ofString "attrs"), .ref D)]) S C.X C.lim ?ho ?hcd ?hroom ?hbind ?hloc (fun L' oL s fc_ S => ?_) ?hco ?hgen ?hk ?hcell
 case ho => k_is
 case hcd => k_is
 case hco => rfl
 case hgen => rfl
 case hk => rfl
 case hcell => decide
 case hroom => first | lia | (simp only [depth_deeper]; lia) | (simp only [depth_deeper, depth_in1]; lia)
 case hbind => exact BindsTo.of_eq rfl
 case hloc => exact locs rfl
 refine wabs (fun Q0 E0 hQ0 => ?_)
 have S := St.sink (W := σ.cells 150) (r := T ++ rest) S
 refine wpAny_execs_cons (wpAny_If (wpAny_isTrue_BoolOp (wpAny_allTrue_And_cons (wpAny_isTrue_Compare1 (Attribute_Name_ (ld S.F (by rfl) ?_))))))
 refine attrN S C.X e1 ho (by k_is) (by k_is) (by k_is) (by k_is) (a.ext.trans (by rw [x2 hxe])) rfl (fun s S => ?_)
 refine wpAny_Constant_none (wpAny_isNot_plain rfl (wpAny_truthy_bool (ifF rfl (ifF rfl (wpAny_execs_nil ?_)))))
 refine wpAny_execs_cons (flushIf (rest := (L, oL) :: (T ++ rest)) C (by first | exact dp0 hroom | exact dp hroom) hh S hW hok.fit (by rfl) rfl rfl rfl (fun τ s hW' S => ?_))
 clear a ho nz e1 e2 x1 x2 x3
 obtain ⟨⟨am, nz, a⟩, e1, e2, hda, hou, hde, hns, hpm, hps, hpn, x1, x2, x3⟩ := id hW'
 have ho := nz.o
 refine wpAny_execs_cons (wpAny_Assign_Name (List_ (spliced_none (listS S (fun nn s S => stS S (fun s S => ?_))))))
 refine wpAny_execs_cons (wpAny_Expr_any ?_ (by rfl) (by rfl))
 refine methodCall_KW (Attribute_Name_ (ld S.F (by rfl) ?_))
 rw [← e1]
 refine attrS S C.X (List.Mem.tail _ (List.Mem.head _)) (List.Mem.tail _ (List.Mem.tail _ (List.Mem.head _))) ho (by k_is) (by k_is) (by k_is) (by k_is) a.dst rfl (fun s S => ?_)
 refine appM S (List.Mem.tail _ (List.Mem.tail _ (List.Mem.tail _ (List.Mem.tail _ (List.Mem.head _))))) (callWith_method1 ?_ rfl)
 refine spliced_more (ld S.F (by rfl) (spliced_none ?_))
 have hdl : τ.dec.length < 900 := by rw [hde.length]; exact hok.dcl
 refine appendL S (Up.tail (Up.tail (Up.tail (Up.tail Up.head)))) (fun s S => ?_) (by simp; lia)
 have S := S.perm (Wn.newDec (σ := τ) nn)
 have hW2 : WIs progN w c τ.x τ.pl (opened c b) { τ with dec := τ.dec ++ [(nn, #[], 0)], nst := τ.nst + 1 } := ⟨⟨am, nz, a.same ⟨rfl, rfl, rfl, rfl, rfl, rfl, rfl, rfl, rfl⟩⟩, rfl, rfl, hda, hou, hde.snoc .nil, hns, hpm, hps, hpn, x1, x2, x3⟩
 have a' : AmN am { τ with dec := τ.dec ++ [(nn, #[], 0)], nst := τ.nst + 1 } c _ _ _ := a.same ⟨rfl, rfl, rfl, rfl, rfl, rfl, rfl, rfl, rfl⟩
 refine wpAny_execs_cons (wpAny_If (wpAny_isTrue_BoolOp (wpAny_allTrue_And_cons (wpAny_isTrue_Compare1 (Attribute_Name_ (ld S.F (by rfl) ?_))))))
 refine attrN S C.X e1 ho (by k_is) (by k_is) (by k_is) (by k_is) a'.qat rfl (fun s S => ?_)
 refine wpAny_Constant_none (wpAny_isNot_plain rfl (wpAny_truthy_bool (ifF rfl (ifF rfl (wpAny_execs_nil ?_)))))
 refine wpAny_execs_cons (wpAny_Expr_any ?_ (by rfl) (by rfl))
 refine methodCall_KW (ld S.F (by rfl) ?_)
 refine methN S C.X e1 ho (by k_is) (by k_is) (by k_is) a'.m4 ?_
 refine callWith_K (K := hd.heap_1 w.params) C.X (by k_is) ?_
 refine spliced_more (ld S.F (by rfl) ?_)
 refine spliced_more (ld S.F (by rfl) ?_)
 refine spliced_more (ld S.F (by rfl) ?_)
 refine spliced_none ⟨S.X C.X, wpAny_call ?_⟩
 have S : St B os G L' _ ({ τ with dec := τ.dec ++ [(nn, #[], 0)], nst := τ.nst + 1 }.cells 150 ++ (T ++ ((L, oL) :: rest))) s := S.perm (List.Perm.append_left _ List.perm_middle.symm)
 have hfo : (opened c b).out.length ≤ b.out.length + 1 := by
  show (b.out ++ flOut c.st (lastP b) b.data).length ≤ _
  have : (flOut c.st (lastP b) b.data).length ≤ 1 := by unfold flOut; split <;> simp
  rw [List.length_append]; lia
 have hFo : Fit (opened c b) := ⟨.inr rfl, by show (0 : Nat) < _; decide, by show total [] ≤ _; decide, by have := hok.out; lia, hok.fit.pr⟩
 rw [← e1]
 refine start_in (rest := (L, oL) :: rest) H C (by first | exact dp0 hroom | exact dp hroom) hh (by first | exact du hu | (simp only [units_deeper]; lia)) S hT hW2 hxe hqa (.tail _ hD) hDd hDm hok.ps hok.nk hok.nd (by simpa using hok.al) hok.len hFo (by simp) hok.lv hok.val hok.prl hok.nsl (fun b2 σ' G' T' s hT' hst hW3 S => ?_)
 refine wpAny_execs_nil ?_
 have S := S.perm (List.Perm.append_left _ (List.perm_middle (l₁ := T')))
 refine hQ0 _ _ ?_
 exact k b2 σ' G' T' _ hT' hst (by rw [e1, e2] at hW3; exact hW3) (S.rise.back fc_)
end
end Mine
end
section
open PySem PySem.W PySem.Calls PyProof.Rows PySem.Spec
open PySem.Str (ofString)
namespace Mine
section
variable {prog : Program} {w : World} {A : Around} {E : Value → Shared → Prop} {s s' : Shared} {B : Heap} {os : OsState} {G : Array GenState} {L a c D : Addr} {m : Str → Option Value} {news : List Cell} {Q : Value → Shared → Prop}
theorem listItemsP {r d : Addr} {ps : List (Str × Str × Tok)} {ep : Nat} (hh : A.handled = none) (S : St B os G L m news s) (hv : s.heap.IsItemsView r d) (hm : s.heap.DictAt (strKind prog w) d (tkv ps) ep) (hn : ps.length ≤ 1000)
 (h : ∀ D its c tc s', Pairs tc its.toList (tps ps) → St B os G L m ((D, listOf its c) :: (tc ++ news)) s' → Q (.ref D) s') : wpAny (model prog w) A (call (.type "list") [.ref r]) Q E s := by
 refine kdx_call hh hv hm (by rw [PySem.sizeLine_eq]; simp; lia) (fun h' tk acc c as hk hS hl hG hacc => ?_)
 have hl' : as.length = ps.length := by simpa using hl
 obtain ⟨tc, t1, t2, t3⟩ := kdx_cells (prog := prog) (w := w) (kvs := tkv ps) hl' hG.pairs
 refine h _ acc c tc _ (by rw [hacc]; exact t3) (addCells (tc := (_, listOf acc c) :: tc) (tk := tk) S hk (fun p hp => ?_) ?_ (fun p hp => ?_))
 · rcases List.mem_cons.mp hp with rfl | hp
   · exact hS
   · exact t2 p hp
 · rw [List.map_cons, List.pairwise_cons, t1]
   exact ⟨fun a ha => hG.above a ha, hG.rise⟩
 · rcases List.mem_cons.mp hp with rfl | hp
   · exact Nat.le_refl _
   · exact Nat.le_of_lt (hG.above _ (by rw [← t1]; exact List.mem_map_of_mem hp))
end
end Mine
end
section
open PySem PySem.W PySem.Calls PyProof.Rows
open PySem.Str (ofString)
namespace Mine
section
variable {w : World} {L : Addr} {x : Addr}
noncomputable def keyStr : Value → Str
 | .str x _ => x
 | _ => (ofString "")
noncomputable def valStr : Value → Str × Tok
 | .str x t => (x, t)
 | _ => ((ofString ""), 0)
theorem pairs_of {prog : Program} {P : Params} (hP : P = w.params) : ∀ {l : List DictEntry}, KeysLit P l → PySem.Pairs (PySem.strKind prog w) l (l.map fun e => (keyStr e.key, e.val))
 | [], _ => PySem.Pairs.nil
 | e :: r, ⟨⟨x, t, h1, h2⟩, hr⟩ => PySem.Pairs.cons (kv := (keyStr e.key, e.val)) (by rw [h1]; exact isStrOf_str x t prog w) rfl (pairs_of hP hr)
theorem dictAt_K {prog : Program} {K : Frag} {h : Heap} {a : Addr} {es : Array DictEntry} {n : Nat} {L : List (Str × Str)} (X : K.In h) (hl : K.lookup a = some ⟨.type "dict", none, .dict es n, #[]⟩) (hk : KeysLit w.params es.toList) (nd : (es.toList.map fun e => keyStr e.key).Nodup)
 (hv : (es.toList.map fun e => (keyStr e.key, e.val)) = tkv (es.toList.map fun e => (keyStr e.key, valStr e.val))) (hL : tps (es.toList.map fun e => (keyStr e.key, valStr e.val)) = L) :
 ∃ ps, h.DictAt (PySem.strKind prog w) a (tkv ps) n ∧ tps ps = L :=
 ⟨es.toList.map fun e => (keyStr e.key, valStr e.val), hv ▸ ⟨_, es, X _ _ hl, ⟨rfl, rfl, rfl⟩, rfl, (fun e he => by
  obtain ⟨x, t, e1, e2⟩ := hk.all e (Array.mem_toList_iff.mpr he)
  exact ⟨x, by rw [e1]; exact isStrOf_str x t prog w, e2⟩), pairs_of rfl hk, by rw [List.map_map]; exact nd⟩, hL⟩
noncomputable def nsMapL : List (Str × Str) := [((ofString "http://www.w3.org/XML/1998/namespace"), (ofString "xml")), ((ofString "http://www.w3.org/1999/xhtml"), (ofString "html")), ((ofString "http://www.w3.org/1999/02/22-rdf-syntax-ns#"), (ofString "rdf")), ((ofString "http://schemas.xmlsoap.org/wsdl/"), (ofString "wsdl")), ((ofString "http://www.w3.org/2001/XMLSchema"), (ofString "xs")), ((ofString "http://www.w3.org/2001/XMLSchema-instance"), (ofString "xsi")), ((ofString "http://purl.org/dc/elements/1.1/"), (ofString "dc"))]
theorem nsMap_at {h : Heap} (X : (hd.heap_1 w.params).In h) : ∃ ps ep, h.DictAt (PySem.strKind progN w) 44 (tkv ps) ep ∧ tps ps = nsMapL := by
 obtain ⟨ps, hD, hl⟩ := dictAt_K (prog := progN) (a := 44) (w := w) (L := nsMapL) X (by k_is) (by k_keys) (by simp only [List.map_cons, List.map_nil, keyStr]; decide) rfl rfl
 exact ⟨ps, _, hD, hl⟩
end
section
variable {w : World} {rw sp : Bool} {A : Around} {E : Value → Shared → Prop} {s : Shared} {R : Result → Shared → Prop} {B : Heap} {os : OsState} {G : Array GenState} {L : Addr} {m : Str → Option Value} {news rest : List Cell} {σ : Wn} {c : Cfg} {x pl : Addr} {b : Ab}
theorem setNew {prog : Program} {K : Frag} {x C dx : Addr} {od : Obj} {sl : Array (Option Value)} {am : Str → Option Value} {name : Str} {v : Value} {k : Nat} {news' : Obj → List Cell} {Q : Unit → Shared → Prop} (S : St B os G L m news s) (X : K.In B)
 (hx : (x, (⟨.ref C, some dx, .plain, sl⟩ : Obj)) ∈ news) (U : ∀ od', Up dx od od' news (news' od')) (ho : NsZ k od am) (hz : k < 1000) (h0 : am name = none)
 (hs : findIn K (.ref C) "__setattr__" = some (some (.builtin "object.__setattr__"))) (hp : plainOver K C = true) (ht : takerIn K C name = some none) (hh : hasDictIn K C = true)
 (h : ∀ od' s', NsZ (k + 1) od' (updM am name v) → St B os G L m (news' od') s' → Q () s') : wpAny (model prog w) A (setAttr (.ref x) name v) Q E s :=
 setS S X hx U ho hz hs hp ht hh (fun od' s' hz S => h od' s' (by rw [h0] at hz; exact hz) S)
noncomputable def ab0 (c : Cfg) : Ab := { out := [], data := [], dec := [[((ofString "http://www.w3.org/XML/1998/namespace"), (ofString "xml"))]], nss := if c.rw = true then [[]] else [nsMapL, []], pmap := [], pres := [false], seen := false, done := false, ign := 0 }
set_option maxHeartbeats 8000000 in
theorem init_spec {dx bm : Addr} {npl : Nat} 
 (C : Cx (hd.heap_1 w.params) B) (hroom : A.depth + 3 < recursionLimit) (hh : A.handled = none)
  (S : St B os G L m ((x, instO 150 dx) :: (dx, dictOf [] 0) :: (bm, bmO pl) :: (pl, listOf #[] npl) :: rest) s)
  (k : ∀ σ s', WIs progN w ⟨rw, sp, false, false⟩ x pl (ab0 ⟨rw, sp, false, false⟩) σ → St B os G L m (σ.cells 150 ++ rest) s' → R (.ok (.ret .none)) s') :
  codeAny (model progN w) A (.call (.ref 67) ⟨[.ref x, .ref bm], [((ofString "rewrite_prefixes"), .bool rw), ((ofString "strip_text"), .bool sp)]⟩) R s := by
 have nz : NsZ 0 (dictOf [] 0) (fun _ => none) := ⟨#[], 0, rfl, (fun e he => by simp at he), fun _ => rfl, by decide⟩
 refine' call_fn (K := hd.heap_1 w.params) (binds := [((ofString "self"), .ref x), ((ofString "write"), .ref bm), ((ofString "with_comments"), .bool false), ((ofString "strip_text"), .bool sp), ((ofString "rewrite_prefixes"), .bool rw), ((ofString "qname_aware_tags"), .none), ((ofString "qname_aware_attrs"), .none), ((ofString "exclude_attrs"), .none), ((ofString "exclude_tags"), .none)]) S C.X C.lim ?ho ?hcd ?hroom ?hbind ?hloc (fun L' oL s fc_ S => ?_) ?hco ?hgen ?hk ?hcell
 case ho => k_is
 case hcd => k_is
 case hco => rfl
 case hgen => rfl
 case hk => rfl
 case hcell => decide
 case hroom => lia
 case hbind => exact kp_binds (S.X C.X) (fun _ => by kernel_rfl)
 case hloc => exact locs rfl
 refine nm9 (x1 := (ofString "self")) (x2 := (ofString "write")) (x3 := (ofString "with_comments")) (x4 := (ofString "strip_text")) (x5 := (ofString "rewrite_prefixes")) (x6 := (ofString "qname_aware_tags")) (x7 := (ofString "qname_aware_attrs")) (x8 := (ofString "exclude_attrs")) (x9 := (ofString "exclude_tags")) S (by rfl) (by rfl) (by rfl) (by rfl) (by rfl) (by rfl) (by rfl) (by rfl) (by rfl) (fun mI S iself iw iwc ist irw iqt iqa ixa ixt => ?_)
 refine wabs (fun Q0 E0 hQ0 => ?_)
 refine wpAny_execs_cons (plainObj_wpAny_Assign_Attribute (ld S.F iw (ld S.F iself ?_)))
 refine setNew S C.X (List.Mem.tail _ (List.Mem.head _)) (fun od' => (Up.tail (Up.tail Up.head))) nz (by decide) (by rfl) (by k_is) (by k_is) (by k_is) (by k_is) (fun od' s nz S => ?_)
 refine wpAny_execs_cons (plainObj_wpAny_Assign_Attribute (List_ (spliced_none (listS S (fun da s S => ld S.F iself ?_)))))
 refine setNew S C.X (List.Mem.tail _ (List.Mem.tail _ (List.Mem.head _))) (fun od' => (Up.tail (Up.tail (Up.tail Up.head)))) nz (by decide) (by rfl) (by k_is) (by k_is) (by k_is) (by k_is) (fun od' s nz S => ?_)
 refine wpAny_execs_cons (plainObj_wpAny_Assign_Attribute (ld S.F iwc (ld S.F iself ?_)))
 refine setNew S C.X (List.Mem.tail _ (List.Mem.tail _ (List.Mem.head _))) (fun od' => (Up.tail (Up.tail (Up.tail Up.head)))) nz (by decide) (by rfl) (by k_is) (by k_is) (by k_is) (by k_is) (fun od' s nz S => ?_)
 refine wpAny_execs_cons (plainObj_wpAny_Assign_Attribute (ld S.F ist (ld S.F iself ?_)))
 refine setNew S C.X (List.Mem.tail _ (List.Mem.tail _ (List.Mem.head _))) (fun od' => (Up.tail (Up.tail (Up.tail Up.head)))) nz (by decide) (by rfl) (by k_is) (by k_is) (by k_is) (by k_is) (fun od' s nz S => ?_)
 refine wpAny_execs_cons (plainObj_wpAny_Assign_Attribute (wpAny_IfExp (wpAny_isTrue_value (ld S.F ixa (truthy_none (ifF rfl (wpAny_Constant_none (ld S.F iself ?_))))))))
 refine setNew S C.X (List.Mem.tail _ (List.Mem.tail _ (List.Mem.head _))) (fun od' => (Up.tail (Up.tail (Up.tail Up.head)))) nz (by decide) (by rfl) (by k_is) (by k_is) (by k_is) (by k_is) (fun od' s nz S => ?_)
 refine wpAny_execs_cons (plainObj_wpAny_Assign_Attribute (wpAny_IfExp (wpAny_isTrue_value (ld S.F ixt (truthy_none (ifF rfl (wpAny_Constant_none (ld S.F iself ?_))))))))
 refine setNew S C.X (List.Mem.tail _ (List.Mem.tail _ (List.Mem.head _))) (fun od' => (Up.tail (Up.tail (Up.tail Up.head)))) nz (by decide) (by rfl) (by k_is) (by k_is) (by k_is) (by k_is) (fun od' s nz S => ?_)
 refine wpAny_execs_cons (plainObj_wpAny_Assign_Attribute (ld S.F irw (ld S.F iself ?_)))
 refine setNew S C.X (List.Mem.tail _ (List.Mem.tail _ (List.Mem.head _))) (fun od' => (Up.tail (Up.tail (Up.tail Up.head)))) nz (by decide) (by rfl) (by k_is) (by k_is) (by k_is) (by k_is) (fun od' s nz S => ?_)
 refine wpAny_execs_cons (wpAny_If (wpAny_isTrue_value (ld S.F iqt (truthy_none (ifF rfl ?_)))))
 refine wpAny_execs_cons (plainObj_wpAny_Assign_Attribute (wpAny_Constant_none (ld S.F iself ?_)))
 refine setNew S C.X (List.Mem.tail _ (List.Mem.tail _ (List.Mem.head _))) (fun od' => (Up.tail (Up.tail (Up.tail Up.head)))) nz (by decide) (by rfl) (by k_is) (by k_is) (by k_is) (by k_is) (fun od' s nz S => ?_)
 refine wpAny_execs_nil ?_
 refine wpAny_execs_cons (wpAny_If (wpAny_isTrue_value (ld S.F iqa (truthy_none (ifF rfl ?_)))))
 refine wpAny_execs_cons (plainObj_wpAny_Assign_Attribute (wpAny_Constant_none (ld S.F iself ?_)))
 refine setNew S C.X (List.Mem.tail _ (List.Mem.tail _ (List.Mem.head _))) (fun od' => (Up.tail (Up.tail (Up.tail Up.head)))) nz (by decide) (by rfl) (by k_is) (by k_is) (by k_is) (by k_is) (fun od' s nz S => ?_)
 refine wpAny_execs_nil ?_
 refine wpAny_execs_cons (plainObj_wpAny_Assign_Attribute (List_ (spliced_more (List_ (spliced_more (Tuple_ (spliced_more (cStr S (fun t1 s S => spliced_more (cStr S (fun t2 s S => spliced_none ?_)))))))))))
 refine tupS S (fun tp s S => spliced_none (listS S (fun lx s S => spliced_none (listS S (fun st s S => ld S.F iself ?_)))))
 refine setNew S C.X (List.Mem.tail _ (List.Mem.tail _ (List.Mem.tail _ (List.Mem.tail _ (List.Mem.tail _ (List.Mem.head _)))))) (fun od' => (Up.tail (Up.tail (Up.tail (Up.tail (Up.tail (Up.tail Up.head))))))) nz (by decide) (by rfl) (by k_is) (by k_is) (by k_is) (by k_is) (fun od' s nz S => ?_)
 refine wpAny_execs_cons (plainObj_wpAny_Assign_Attribute (List_ (spliced_none (listS S (fun ns s S => ld S.F iself ?_)))))
 refine setNew S C.X (List.Mem.tail _ (List.Mem.tail _ (List.Mem.tail _ (List.Mem.tail _ (List.Mem.tail _ (List.Mem.tail _ (List.Mem.head _))))))) (fun od' => (Up.tail (Up.tail (Up.tail (Up.tail (Up.tail (Up.tail (Up.tail Up.head)))))))) nz (by decide) (by rfl) (by k_is) (by k_is) (by k_is) (by k_is) (fun od' s nz S => ?_)
 refine stmt_cut2 (fun s => ∃ nsl tc k0, Lvs tc nsl (if rw = true then [] else [nsMapL]) ∧ St B os G L' mI ((ns, listOf (nsl.map fun q => Value.ref q.1).toArray k0) :: (st, listOf #[.ref lx] 0) :: (lx, listOf #[.ref tp] 0) :: (tp, tupO #[.str (ofString "http://www.w3.org/XML/1998/namespace") t1, .str (ofString "xml") t2]) :: (da, listOf #[] 0) :: (L, oL) :: (x, instO 150 dx) :: (dx, od') :: (bm, bmO pl) :: (pl, listOf #[] npl) :: (lvC nsl ++ (tc ++ rest))) s) ?_ ?_
 · intro Qc hQc
   refine wpAny_If (wpAny_isTrue_Not (wpAny_isTrue_value (ld S.F irw (wpAny_truthy_bool ?_))))
   cases hrw : rw with
   | false =>
    refine ifT rfl ?_
    refine wpAny_execs_cons (wpAny_Expr_any ?_ (by rfl) (by rfl))
    refine methodCall_KW (Attribute_Name_ (ld S.F iself ?_))
    refine attrS S C.X (List.Mem.tail _ (List.Mem.tail _ (List.Mem.tail _ (List.Mem.tail _ (List.Mem.tail _ (List.Mem.tail _ (List.Mem.head _))))))) (List.Mem.tail _ (List.Mem.tail _ (List.Mem.tail _ (List.Mem.tail _ (List.Mem.tail _ (List.Mem.tail _ (List.Mem.tail _ (List.Mem.head _)))))))) nz.o (by k_is) (by k_is) (by k_is) (by k_is) (by rfl) rfl (fun s S => ?_)
    refine appM S (List.Mem.head _) (callWith_method1 ?_ rfl)
    refine spliced_more (wpAny_Call_ofName (bltS C S (by k_is) PyProof.Rows.boot_list (by decide) (PyProof.Rows.callWith_type1 ?_)))
    obtain ⟨nkv, nep, hnm, hnl⟩ := nsMap_at (S.X C.X)
    refine spliced_more (wpAny_Call_items (knd := PySem.strKind progN w) (d := 44) (kvs := tkv nkv) rfl hnm.dictOf rfl rfl (fun Q' hq => globS C S (by k_is) hq) (spliced_none ?_))
    have S := S.push (t := s.toks) ({ cls := .type "dict_items", data := .fields #[.ref 44] } : Obj)
    refine listItemsP (ps := nkv) (ep := nep) hh S ⟨_, S.get (.head _), rfl, rfl⟩ (hnm.keep fun b o e => Heap.get?_push_of_some _ e) (by have := congrArg List.length hnl; simp [nsMapL] at this; lia) (fun n1 its c1 tc s hn1 S => spliced_none ?_)
    have S := S.drop (List.Sublist.cons_cons _ (List.Sublist.append (List.Sublist.refl tc) (List.sublist_cons_self _ _)))
    have S : St B os G L' mI ((ns, listOf [].toArray 0) :: (st, listOf #[.ref lx] 0) :: (lx, listOf #[.ref tp] 0) :: (tp, tupO #[.str (ofString "http://www.w3.org/XML/1998/namespace") t1, .str (ofString "xml") t2]) :: (da, listOf #[] 0) :: (L, oL) :: (x, instO 150 dx) :: (dx, od') :: (bm, bmO pl) :: (pl, listOf #[] npl) :: ((n1, listOf its c1) :: (tc ++ rest))) s := S.perm (permI [.inl _, .inr _, .inl _, .inl _, .inl _, .inl _, .inl _, .inl _, .inl _, .inl _, .inl _, .inl _] _ [0, 1, 2, 3, 4, 5, 6, 7, 8, 9, 10, 11] [2, 3, 4, 5, 6, 7, 8, 9, 10, 11, 0, 1] rfl)
    refine appendL S Up.head (fun s S => ?_) (by simp)
    exact wpAny_execs_nil (hQc _ ⟨[(n1, its, c1)], tc, 0 + 1, by rw [hrw]; exact .cons (hnl ▸ hn1 : Pairs tc its.toList nsMapL) .nil, S⟩)
   | true => exact ifF rfl (wpAny_execs_nil (hQc _ ⟨[], [], 0, by rw [hrw]; exact .nil, S⟩))
 · rintro s ⟨nsl, tc, k0, hlv, S⟩
   have hnz : nsl.length ≤ 1 := by rw [hlv.length]; split <;> simp
   refine wpAny_execs_cons (wpAny_Expr_any ?_ (by rfl) (by rfl))
   refine methodCall_KW (Attribute_Name_ (ld S.F iself ?_))
   refine attrS S C.X (List.Mem.tail _ (List.Mem.tail _ (List.Mem.tail _ (List.Mem.tail _ (List.Mem.tail _ (List.Mem.tail _ (List.Mem.head _))))))) (List.Mem.tail _ (List.Mem.tail _ (List.Mem.tail _ (List.Mem.tail _ (List.Mem.tail _ (List.Mem.tail _ (List.Mem.tail _ (List.Mem.head _)))))))) nz.o (by k_is) (by k_is) (by k_is) (by k_is) (by rfl) rfl (fun s S => ?_)
   refine appM S (List.Mem.head _) (callWith_method1 ?_ rfl)
   refine spliced_more (List_ (spliced_none (listS S (fun n2 s S => spliced_none ?_))))
   refine appendL S (Up.tail Up.head) (fun s S => ?_) (by simp; lia)
   refine wpAny_execs_cons (plainObj_wpAny_Assign_Attribute (dict0S S C.lim (fun pm s hpm S => ld S.F iself ?_)))
   refine setNew S C.X (List.Mem.tail _ (List.Mem.tail _ (List.Mem.tail _ (List.Mem.tail _ (List.Mem.tail _ (List.Mem.tail _ (List.Mem.tail _ (List.Mem.tail _ (List.Mem.head _))))))))) (fun od' => (Up.tail (Up.tail (Up.tail (Up.tail (Up.tail (Up.tail (Up.tail (Up.tail (Up.tail Up.head)))))))))) nz (by decide) (by rfl) (by k_is) (by k_is) (by k_is) (by k_is) (fun od' s nz S => ?_)
   refine wpAny_execs_cons (plainObj_wpAny_Assign_Attribute (List_ (spliced_more (wpAny_Constant_bool (spliced_none (listS S (fun ps s S => ld S.F iself ?_)))))))
   refine setNew S C.X (List.Mem.tail _ (List.Mem.tail _ (List.Mem.tail _ (List.Mem.tail _ (List.Mem.tail _ (List.Mem.tail _ (List.Mem.tail _ (List.Mem.tail _ (List.Mem.tail _ (List.Mem.head _)))))))))) (fun od' => (Up.tail (Up.tail (Up.tail (Up.tail (Up.tail (Up.tail (Up.tail (Up.tail (Up.tail (Up.tail Up.head))))))))))) nz (by decide) (by rfl) (by k_is) (by k_is) (by k_is) (by k_is) (fun od' s nz S => ?_)
   refine wpAny_execs_cons (plainObj_wpAny_Assign_Attribute (wpAny_Constant_none (ld S.F iself ?_)))
   refine setNew S C.X (List.Mem.tail _ (List.Mem.tail _ (List.Mem.tail _ (List.Mem.tail _ (List.Mem.tail _ (List.Mem.tail _ (List.Mem.tail _ (List.Mem.tail _ (List.Mem.tail _ (List.Mem.head _)))))))))) (fun od' => (Up.tail (Up.tail (Up.tail (Up.tail (Up.tail (Up.tail (Up.tail (Up.tail (Up.tail (Up.tail Up.head))))))))))) nz (by decide) (by rfl) (by k_is) (by k_is) (by k_is) (by k_is) (fun od' s nz S => ?_)
   refine wpAny_execs_cons (plainObj_wpAny_Assign_Attribute (wpAny_Constant_bool (ld S.F iself ?_)))
   refine setNew S C.X (List.Mem.tail _ (List.Mem.tail _ (List.Mem.tail _ (List.Mem.tail _ (List.Mem.tail _ (List.Mem.tail _ (List.Mem.tail _ (List.Mem.tail _ (List.Mem.tail _ (List.Mem.head _)))))))))) (fun od' => (Up.tail (Up.tail (Up.tail (Up.tail (Up.tail (Up.tail (Up.tail (Up.tail (Up.tail (Up.tail Up.head))))))))))) nz (by decide) (by rfl) (by k_is) (by k_is) (by k_is) (by k_is) (fun od' s nz S => ?_)
   refine wpAny_execs_cons (plainObj_wpAny_Assign_Attribute (wpAny_Constant_bool (ld S.F iself ?_)))
   refine setNew S C.X (List.Mem.tail _ (List.Mem.tail _ (List.Mem.tail _ (List.Mem.tail _ (List.Mem.tail _ (List.Mem.tail _ (List.Mem.tail _ (List.Mem.tail _ (List.Mem.tail _ (List.Mem.head _)))))))))) (fun od' => (Up.tail (Up.tail (Up.tail (Up.tail (Up.tail (Up.tail (Up.tail (Up.tail (Up.tail (Up.tail Up.head))))))))))) nz (by decide) (by rfl) (by k_is) (by k_is) (by k_is) (by k_is) (fun od' s nz S => ?_)
   refine wpAny_execs_cons (plainObj_wpAny_Assign_Attribute (wpAny_Constant_int (ld S.tk.F iself ?_)))
   refine setNew S.tk C.X (List.Mem.tail _ (List.Mem.tail _ (List.Mem.tail _ (List.Mem.tail _ (List.Mem.tail _ (List.Mem.tail _ (List.Mem.tail _ (List.Mem.tail _ (List.Mem.tail _ (List.Mem.head _)))))))))) (fun od' => (Up.tail (Up.tail (Up.tail (Up.tail (Up.tail (Up.tail (Up.tail (Up.tail (Up.tail (Up.tail Up.head))))))))))) nz (by decide) (by rfl) (by k_is) (by k_is) (by k_is) (by k_is) (fun od' s nz S => ?_)
   refine wpAny_execs_nil (hQ0 _ _ ?_)
   have S := S.perm (permI [.inl _, .inl _, .inl _, .inl _, .inl _, .inl _, .inl _, .inl _, .inl _, .inl _, .inl _, .inl _, .inl _, .inr _, .inr _] _ [0, 1, 2, 3, 4, 5, 6, 7, 8, 9, 10, 11, 12, 13, 14] [8, 9, 10, 7, 4, 3, 0, 1, 11, 12, 5, 13, 2, 6, 14] rfl)
   refine k ({ x := x, dx := dx, da := da, st := st, ns := ns, ps := ps, pm := pm, bm := bm, pl := pl, od := od', opm := dictO #[] 0, data := [], nd := 0, dec := [(lx, #[.ref tp], 0)], nst := 0, nsl := nsl ++ [(n2, #[], 0)], nns := k0 + 1, psv := [false], nps := 0, out := [], npl := npl, tus := (tp, tupO #[.str (ofString "http://www.w3.org/XML/1998/namespace") t1, .str (ofString "xml") t2]) :: tc, xs := [], exa := .none, ext := .none, fqa := .none } : Wn) _ ⟨⟨_, nz.le (by decide), ?_⟩, rfl, rfl, ⟨[], rfl, rfl⟩, ⟨[], rfl, rfl⟩, .cons (.cons (.head _) .nil) .nil, ?_, ⟨[], dictO_is, rfl⟩, rfl, hpm, fun _ => rfl, fun _ => rfl, fun _ => rfl⟩ ?_
   · exact ⟨by rfl, by rfl, by rfl, by rfl, by rfl, by rfl, by rfl, by rfl, by rfl, by rfl, by rfl, by rfl, by rfl, by rfl, by rfl, ⟨_, by rfl⟩, by rfl, by rfl, by rfl, by rfl, by rfl, by rfl, by rfl, by rfl, by rfl⟩
   · have h := (hlv.mono fun p hp => List.Mem.tail (tp, tupO #[.str (ofString "http://www.w3.org/XML/1998/namespace") t1, .str (ofString "xml") t2]) hp).snoc (q := (n2, #[], 0)) (ps := []) .nil
     cases rw <;> exact h
   · refine St.back (L' := L') (m' := mI) ?_ fc_
     simp only [Wn.cells, lvC, List.map_append, List.map_cons, List.map_nil, List.cons_append, List.append_assoc, List.nil_append, List.append_nil]
     exact S
end
section
variable {w : World} {A : Around} {E : Value → Shared → Prop} {s : Shared} {R : Result → Shared → Prop} {B : Heap} {os : OsState} {G : Array GenState} {L : Addr} {m : Str → Option Value} {news rest W : List Cell} {σ : Wn} {c : Cfg} {x pl : Addr} {b : Ab}
theorem newS {prog : Program} {K : Frag} {C fI : Addr} {pos : List Value} {kw : List (Str × Value)} {Q : Value → Shared → Prop} (S : St B os G L m news s) (X : K.In B) (hm : makesIn K C = true) (hi : findIn K (.ref C) "__init__" = some (some (.ref fI))) (hf : isFn K (.ref fI) = true)
 (h : ∀ x dx s', St B os G L m ((x, instO C dx) :: (dx, dictOf [] 0) :: news) s' →
  codeAny (model prog w) (A.under (.builtin "type.__call__" ⟨.ref C :: pos, kw⟩)) (.call (.ref fI) ⟨.ref x :: pos, kw⟩) (fun r s' => match r with | .ok (.ret v) => v = .none ∧ Q (.ref x) s' | .ok _ => False | .error e => E e s') s') :
 wpAny (model prog w) A (call (.ref C) pos kw) Q E s := by
 refine call_cls S.F X S.N hm hi hf (fun x dx h' F N l1 l2 => codeAny_mono (h x dx _ ⟨F, N, ?_, S.gens, S.bare, S.os⟩) fun r s' hr => hr)
 rw [List.map_cons, List.map_cons, List.nodup_cons, List.nodup_cons]
 refine ⟨fun hm => ?_, fun hm => ?_, S.nd⟩
 · rcases List.mem_cons.mp hm with e | hm
   · exact absurd (show x = dx from e) (Nat.ne_of_gt l2)
   · obtain ⟨q, hq, e⟩ := List.mem_map.mp hm
     have := l1 q hq
     rw [show q.1 = x from e] at this
     exact absurd (Nat.lt_trans l2 this) (Nat.lt_irrefl _)
 · obtain ⟨q, hq, e⟩ := List.mem_map.mp hm
   have := l1 q hq
   rw [show q.1 = dx from e] at this
   exact absurd this (Nat.lt_irrefl _)
theorem starTup {elts : List PySem.Expr} {k : Nat} {p : Pos} {rest : List PySem.Expr} {env : Env} : starEach (.Tuple elts k p :: rest) env = (false, eval (.Tuple elts k p) env) :: starEach rest env := rfl
theorem starLst {elts : List PySem.Expr} {p : Pos} {rest : List PySem.Expr} {env : Env} : starEach (.List elts p :: rest) env = (false, eval (.List elts p) env) :: starEach rest env := rfl
theorem starSub {a b : PySem.Expr} {p : Pos} {rest : List PySem.Expr} {env : Env} : starEach (.Subscript a b p :: rest) env = (false, eval (.Subscript a b p) env) :: starEach rest env := rfl
theorem starCon {c : Const} {k : Nat} {p : Pos} {rest : List PySem.Expr} {env : Env} : starEach (.Constant c k p :: rest) env = (false, eval (.Constant c k p) env) :: starEach rest env := rfl
theorem starCall {a : PySem.Expr} {b : List PySem.Expr} {c : List Keyword} {p : Pos} {rest : List PySem.Expr} {env : Env} : starEach (.Call a b c p :: rest) env = (false, eval (.Call a b c p) env) :: starEach rest env := rfl
theorem starNm {a : Str} {p : Pos} {rest : List PySem.Expr} {env : Env} : starEach (.Name a p :: rest) env = (false, eval (.Name a p) env) :: starEach rest env := rfl
theorem spTup {M : Model} {env : Env} {pos : Pos} {Q : List Value → Shared → Prop} {rest : List PySem.Expr} {elts : List PySem.Expr} {k : Nat} {p : Pos} (h : wpAny M A (eval (.Tuple elts k p) env) (fun v s₁ => wpAny M A (spliced (backTo pos (starEach rest env))) (fun vs s₂ => Q (v :: vs) s₂) E s₁) E s) : wpAny M A (spliced (backTo pos (starEach (.Tuple elts k p :: rest) env))) Q E s := spliced_more h starTup
theorem spLst {M : Model} {env : Env} {pos : Pos} {Q : List Value → Shared → Prop} {rest : List PySem.Expr} {elts : List PySem.Expr} {p : Pos} (h : wpAny M A (eval (.List elts p) env) (fun v s₁ => wpAny M A (spliced (backTo pos (starEach rest env))) (fun vs s₂ => Q (v :: vs) s₂) E s₁) E s) : wpAny M A (spliced (backTo pos (starEach (.List elts p :: rest) env))) Q E s := spliced_more h starLst
theorem spSub {M : Model} {env : Env} {pos : Pos} {Q : List Value → Shared → Prop} {rest : List PySem.Expr} {a b : PySem.Expr} {p : Pos} (h : wpAny M A (eval (.Subscript a b p) env) (fun v s₁ => wpAny M A (spliced (backTo pos (starEach rest env))) (fun vs s₂ => Q (v :: vs) s₂) E s₁) E s) : wpAny M A (spliced (backTo pos (starEach (.Subscript a b p :: rest) env))) Q E s := spliced_more h starSub
theorem spCon {M : Model} {env : Env} {pos : Pos} {Q : List Value → Shared → Prop} {rest : List PySem.Expr} {c : Const} {k : Nat} {p : Pos} (h : wpAny M A (eval (.Constant c k p) env) (fun v s₁ => wpAny M A (spliced (backTo pos (starEach rest env))) (fun vs s₂ => Q (v :: vs) s₂) E s₁) E s) : wpAny M A (spliced (backTo pos (starEach (.Constant c k p :: rest) env))) Q E s := spliced_more h starCon
theorem spCall {M : Model} {env : Env} {pos : Pos} {Q : List Value → Shared → Prop} {rest : List PySem.Expr} {a : PySem.Expr} {b : List PySem.Expr} {c : List Keyword} {p : Pos} (h : wpAny M A (eval (.Call a b c p) env) (fun v s₁ => wpAny M A (spliced (backTo pos (starEach rest env))) (fun vs s₂ => Q (v :: vs) s₂) E s₁) E s) : wpAny M A (spliced (backTo pos (starEach (.Call a b c p :: rest) env))) Q E s := spliced_more h starCall
theorem spNm {M : Model} {env : Env} {pos : Pos} {Q : List Value → Shared → Prop} {rest : List PySem.Expr} {a : Str} {p : Pos} (h : wpAny M A (eval (.Name a p) env) (fun v s₁ => wpAny M A (spliced (backTo pos (starEach rest env))) (fun vs s₂ => Q (v :: vs) s₂) E s₁) E s) : wpAny M A (spliced (backTo pos (starEach (.Name a p :: rest) env))) Q E s := spliced_more h starNm
noncomputable def tellNs (v : List Lvl) (ps : List (Str × Str)) : List Lvl := ps.foldl (fun v p => addLast v (p.2, p.1)) v
theorem addLast_ne {v : List Lvl} {p : Str × Str} (h : v ≠ []) : addLast v p ≠ [] := by
 rcases List.eq_nil_or_concat v with e | ⟨i, q, e⟩
 · exact absurd e h
 · rw [e, List.concat_eq_append, addLast_snoc]; simp
theorem addLast_sz {v : List Lvl} {p : Str × Str} {n : Nat} (h : ∀ l ∈ v, l.length + 1 ≤ n) : ∀ l ∈ addLast v p, l.length ≤ n := by
 rcases List.eq_nil_or_concat v with e | ⟨i, q, e⟩
 · subst e; intro l hl; cases hl
 · rw [e, List.concat_eq_append] at h ⊢
   rw [addLast_snoc]
   intro l hl
   rcases List.mem_append.mp hl with hl | hl
   · have := h l (List.mem_append_left _ hl); lia
   · have := h q (by simp)
     rw [List.mem_singleton] at hl
     subst hl; simpa using this
inductive JT (w : World) (c : Cfg) (x pl : Addr) (b : Ab) (G : Array GenState) (m : Str → Option Value) (rest : List Cell) (ps : List (Str × Str)) (rem : List Value) (G' : Array GenState) (m' : Str → Option Value) (nx : List Cell) : Prop
 | mk {r1 r2 σ'} (eG : G' = G) (hm : ∀ y, y ≠ (ofString "prefix") → y ≠ (ofString "uri") → m' y = m y) (er : ps = r1 ++ r2) (hp : Pairs rest rem r2) (hW : WIs progN w c x pl { b with nss := tellNs b.nss r1 } σ') (hn : tellNs b.nss r1 ≠ []) (hz : ∀ v ∈ tellNs b.nss r1, v.length + r2.length < 900) (en : nx = σ'.cells 150 ++ rest) : JT w c x pl b G m rest ps rem G' m' nx
theorem JT.elim {P : Prop} {ps : List (Str × Str)} {rem : List Value} {G' : Array GenState} {m' : Str → Option Value} {nx : List Cell} (h : JT w c x pl b G m rest ps rem G' m' nx)
 (k : ∀ r1 r2 σ', G' = G → (∀ y, y ≠ (ofString "prefix") → y ≠ (ofString "uri") → m' y = m y) → ps = r1 ++ r2 → Pairs rest rem r2 → WIs progN w c x pl { b with nss := tellNs b.nss r1 } σ' → tellNs b.nss r1 ≠ [] → (∀ v ∈ tellNs b.nss r1, v.length + r2.length < 900) → nx = σ'.cells 150 ++ rest → P) : P := by
 cases h with
 | mk a1 a2 a3 a4 a5 a6 a7 a8 => exact k _ _ _ a1 a2 a3 a4 a5 a6 a7 a8
set_option maxHeartbeats 2000000 in
theorem tellLoop {qual : Str} {scope : Scope} {f : Addr} {cd : Value} {p1 p2 p3 p4 p5 p6 p7 p8 p9 : Pos} {kt : Nat} {l it : Addr} {oit : Obj} {vs : List Value} {n : Nat} {ps : List (Str × Str)} (C : Cx (hd.heap_1 w.params) B) (hroom : A.depth + 5 < recursionLimit) (hh : A.handled = none) (S : St B os G L m ((it, oit) :: (σ.cells 150 ++ rest)) s) (hit : LI oit l 0)
 (hl : (l, listOf vs.toArray n) ∈ rest) (hp : Pairs rest vs ps) (hW : WIs progN w c x pl b σ) (hda : b.data = []) (hign : b.ign = 0) (hnn : b.nss ≠ []) (hlz : ∀ v ∈ b.nss, v.length + ps.length < 900) (hout : b.out.length < 9000) (hpr : b.pres ≠ []) (mt : m (ofString "target") = some (.ref x))
 (hk : scope.kind = .function) (l1 : (envOf qual scope L f cd).kindOf (ofString "target") = some .local) (l2 : (envOf qual scope L f cd).kindOf (ofString "prefix") = some .local) (l3 : (envOf qual scope L f cd).kindOf (ofString "uri") = some .local) (hline : (p4.endLine == p7.line) = true)
 (k : ∀ σ' m' s', (∀ y, y ≠ (ofString "prefix") → y ≠ (ofString "uri") → m' y = m y) → WIs progN w c x pl { b with nss := tellNs b.nss ps } σ' → St B os G L m' (σ'.cells 150 ++ rest) s' → R (.ok .next) s') :
 codeAny (model progN w) A (.forLoop (.Tuple [.Name (ofString "prefix") p1, .Name (ofString "uri") p2] kt p9) (.ref it) [.Expr (.Call (.Attribute (.Name (ofString "target") p3) (ofString "start_ns") p4) [.Name (ofString "prefix") p5, .Name (ofString "uri") p6] [] p7) p8] [] (envOf qual scope L f cd)) R s := by
 refine forP (cl := []) (n := n) (JT w c x pl b G m rest ps) hh S hit (.mk (r1 := []) rfl (fun _ _ _ => rfl) rfl hp hW hnn hlz rfl) ?_ ?_ ?_ ?_ hk l2 l3
 · exact fun hJ => hJ.elim fun _ _ _ _ _ _ _ _ _ _ e => e ▸ List.mem_append_right _ hl
 · exact fun hJ => hJ.elim fun _ _ _ _ _ _ hpr _ _ _ e => hpr.consE fun _ _ _ _ _ _ ev _ hx _ => ⟨_, _, _, ev, e ▸ List.mem_append_right _ hx⟩
 · intro ta u p rem G' m' news' oit' s hJ hta S
   refine wabs (fun Q' E2 hQ' => ?_)
   refine hJ.elim (fun r1 r2 σ' eG hm' er hpr2 hW' hn' hz' en => ?_)
   refine hpr2.consE (fun ta' u' p' t1 t2 r2' ev er2 hx hr => ?_)
   · cases ev
     replace S := S.castC en
     rw [en] at hta
     obtain ⟨eu, ep⟩ := tup2_of S (.tail _ (List.mem_append_right _ hx)) (.tail _ hta)
     rw [eu, ep] at S
     rw [er2] at er hz'
     refine hW'.amE (fun am nz a => ?_)
     refine wpAny_execs_cons (wpAny_Expr_any ?_ (by show (scope.kind == .module && (scope.more.any _)) = false; rw [hk]; rfl) (by rfl))
     refine methodCall_S rfl rfl hline (ldX S (v := .ref x) ((updM_ne (by decide)).trans ((updM_ne (by decide)).trans ((hm' _ (by decide) (by decide)).trans mt))) ?_ hk l1)
     intro pl
     have S := St.sink (W := σ'.cells 150) (r := rest) S
     refine methN S C.X hW'.ax nz.o (by k_is) (by k_is) (by k_is) a.m10 ?_
     refine callWith_K (K := hd.heap_1 w.params) C.X (by k_is) ?_
     refine spliced_more (ldX S (v := .str u' t1) (by rfl) ?_ hk l2)
     refine spliced_more (ldX S (v := .str p' t2) (by rfl) ?_ hk l3)
     refine spliced_none ⟨S.X C.X, wpAny_call ?_⟩
     refine sns_spec (rest := (it, oit') :: rest) C (by first | exact dp0 hroom | exact dp hroom) hh S hW' hign ⟨.inr hda, by show b.data.length < _; rw [hda]; decide, by show total b.data ≤ _; rw [hda]; decide, hout, hpr⟩ hn' (fun v hv => by have := hz' v hv; lia) (fun σ2 s hW2 S => ?_)
     have e : tellNs b.nss (r1 ++ [(u', p')]) = addLast (tellNs b.nss r1) (p', u') := by simp [tellNs]
     refine wpAny_execs_nil (hQ' .next _ ⟨_, _, _, .mk (r1 := r1 ++ [(u', p')]) eG (fun y h1 h2 => (updM_ne h2).trans ((updM_ne h1).trans (hm' y h1 h2))) (er.trans (List.append_cons ..)) hr ?_ ?_ ?_ rfl, S.rise⟩)
     · rw [flushed_nil (b := { b with nss := tellNs b.nss r1 }) hda] at hW2
       rw [e]
       exact hW2
     · rw [e]
       exact addLast_ne hn'
     · rw [e]
       intro v hv
       have := addLast_sz (n := 899 - r2'.length) (p := (p', u')) (fun l hl => by have := hz' l hl; simp only [List.length_cons] at this; lia) v hv
       have h0 := hz'
       rcases List.eq_nil_or_concat (tellNs b.nss r1) with e | ⟨i, q, e⟩
       · exact absurd e hn'
       · have := h0 q (by rw [e]; simp)
         simp only [List.length_cons] at this
         lia
 · intro G' m' news' s hJ S
   refine hJ.elim (fun r1 r2 σ' eG hm' er hpr2 hW' hn' hz' en => ?_)
   rw [hpr2.nilE, List.append_nil] at er
   rw [er, ← eG] at k
   exact k σ' m' s hm' hW' (S.cast en)
end
section
variable {w : World} {A : Around} {s : Shared} {R : Result → Shared → Prop} {B : Heap} {os : OsState} {G : Array GenState} {L : Addr} {m : Str → Option Value} {rest : List Cell} {σ : Wn} {c : Cfg} {x pl : Addr} {b : Ab}
noncomputable abbrev rwOf (n : Int) : Bool := n.fmod 2 == 1
noncomputable abbrev spOf (n : Int) : Bool := (n.fdiv 2).fmod 2 == 1
noncomputable abbrev cfgOf (n : Int) : Cfg := ⟨rwOf n, spOf n, false, false⟩
noncomputable abbrev told2 : List (Str × Str) := [((ofString "p"), (ofString "u")), ((ofString "b"), (ofString "u")), ((ofString "q"), (ofString "v")), ((ofString "r"), (ofString "w"))]
noncomputable def tgt (c : Cfg) : Ab := { ab0 c with nss := tellNs (ab0 c).nss told2 }
set_option maxHeartbeats 4000000 in
theorem target_spec {n : Int} {tn : Tok} {npl : Nat} (C : Cx (hd.heap_1 w.params) B) (hroom : A.depth + 8 < recursionLimit) (hh : A.handled = none) (S : St B os G L m ((pl, listOf #[] npl) :: rest) s)
 (k : ∀ σ x s', WIs progN w (cfgOf n) x pl (tgt (cfgOf n)) σ → St B os G L m (σ.cells 150 ++ rest) s' → R (.ok (.ret (.ref x))) s') :
 codeAny (model progN w) A (.call (.ref 182) ⟨[.ref pl, .int n tn], []⟩) R s := by
 refine' call_fn (K := hd.heap_1 w.params) (binds := [((ofString "out"), .ref pl), ((ofString "first"), .int n tn)]) S C.X C.lim ?ho ?hcd ?hroom ?hbind ?hloc (fun L' oL s fc_ S => ?_) ?hco ?hgen ?hk ?hcell
 case ho => k_is
 case hcd => k_is
 case hco => rfl
 case hgen => rfl
 case hk => rfl
 case hcell => decide
 case hroom => first | lia | (simp only [depth_deeper]; lia) | (simp only [depth_deeper, depth_in1]; lia)
 case hbind => exact BindsTo.of_eq rfl
 case hloc => exact locs rfl
 refine wabs (fun Q0 E0 hQ0 => ?_)
 refine wpAny_execs_cons (wpAny_Assign_Name (wpAny_Call_ofName (globS C S (by k_is) ?_)))
 refine callWith_KW (K := hd.heap_1 w.params) C.X (by k_is) rfl ?_
 refine spliced_more (Attribute_Name_ (ld S.F (by rfl) ?_))
 refine appendAttrS S (List.Mem.tail _ (List.Mem.head _)) (fun bm s S => spliced_none (kws_cons ?_))
 refine wpAny_Compare1 (wpAny_BinOp (ld S.F (by rfl) (cInt S (fun _ s S => modS S (by decide) (fun _ s S => cInt S (fun _ s S => PySem.P.eq_int ?_))))))
 refine kws_cons (wpAny_Compare1 (wpAny_BinOp (wpAny_BinOp (ld S.F (by rfl) (cInt S (fun _ s S => fdivS S (by decide) (by decide) (fun _ s S => cInt S (fun _ s S => modS S (by decide) (fun _ s S => cInt S (fun _ s S => PySem.P.eq_int ?_))))))))))
 refine kws_nil ⟨S.X C.X, ?_⟩
 show wpAny _ _ (call (.ref 150) [.ref bm] [((ofString "rewrite_prefixes"), .bool (rwOf n)), ((ofString "strip_text"), .bool (spOf n))]) _ _ _
 refine newS S C.X (by k_is) (fI := 67) (by k_is) (by k_is) (fun x dx s S => ?_)
 have S : St B os G L' _ ((x, instO 150 dx) :: (dx, dictOf [] 0) :: (bm, bmO pl) :: (pl, listOf #[] npl) :: (L, oL) :: rest) s :=
  S.perm (List.Perm.cons _ (List.Perm.cons _ (List.Perm.cons _ (List.Perm.swap ..))))
 refine init_spec (rest := (L, oL) :: rest) C (by rw [depth_under_kw, depth_deeper]; lia) hh S (fun σ s hW S => ⟨rfl, ?_⟩)
 refine stS S (fun s S => ?_)
 with_reducible refine wpAny_execs_cons ?_
 refine wpAny_For ?_
 with_reducible refine List_ ?_
 refine spTup ?_
 refine Tuple_ ?_
 refine spCon ?_
 refine cStr S (fun t1 s S => ?_)
 refine spCon ?_
 refine cStr S (fun t2 s S => ?_)
 refine spliced_none ?_
 refine tupS S (fun a1 s S => ?_)
 refine spTup ?_
 refine Tuple_ ?_
 refine spCon ?_
 refine cStr S (fun t3 s S => ?_)
 refine spCon ?_
 refine cStr S (fun t4 s S => ?_)
 refine spliced_none ?_
 refine tupS S (fun a2 s S => ?_)
 refine spTup ?_
 refine Tuple_ ?_
 refine spCon ?_
 refine cStr S (fun t5 s S => ?_)
 refine spCon ?_
 refine cStr S (fun t6 s S => ?_)
 refine spliced_none ?_
 refine tupS S (fun a3 s S => ?_)
 refine spTup ?_
 refine Tuple_ ?_
 refine spCon ?_
 refine cStr S (fun t7 s S => ?_)
 refine spCon ?_
 refine cStr S (fun t8 s S => ?_)
 refine spliced_none ?_
 refine tupS S (fun a4 s S => ?_)
 refine spliced_none (listS S (fun l s S => ?_))
 refine iterL S (.head _) (fun it oit s hit S => ?_)
 have S : St B os G L' _ ((it, oit) :: (σ.cells 150 ++ ((l, listOf [Value.ref a1, .ref a2, .ref a3, .ref a4].toArray 0) :: (a4, tupO #[.str (ofString "r") t7, .str (ofString "w") t8]) :: (a3, tupO #[.str (ofString "q") t5, .str (ofString "v") t6]) :: (a2, tupO #[.str (ofString "b") t3, .str (ofString "u") t4]) :: (a1, tupO #[.str (ofString "p") t1, .str (ofString "u") t2]) :: (L, oL) :: rest))) s := S.perm (List.Perm.cons _ (permI [.inl _, .inl _, .inl _, .inl _, .inl _, .inr _, .inl _] _ [0, 1, 2, 3, 4, 5, 6] [5, 0, 1, 2, 3, 4, 6] rfl))
 refine tellLoop (ps := told2) C (by first | lia | (simp only [depth_deeper]; lia)) hh S hit (.head _) ?_ hW rfl rfl ?_ ?_ (by show (0 : Nat) < _; decide) (by show [false] ≠ []; simp) (by rfl) rfl rfl rfl rfl (by decide) (fun σ' m' s hm hW' S => ?_)
 · exact .cons (by walk_at "mem") (.cons (by walk_at "mem") (.cons (by walk_at "mem") (.cons (by walk_at "mem") .nil)))
 · show (if _ then _ else _) ≠ []
   split <;> simp
 · unfold ab0
   show ∀ v ∈ (if (rwOf n) = true then _ else _), _
   cases rwOf n <;> decide
 refine wpAny_execs_cons (wpAny_Return_some (ld S.F (v := .ref x) (by rw [hm _ (by decide) (by decide)]; rfl) ?_))
 refine hQ0 _ _ ?_
 refine k σ' x _ hW' ?_
 have S := S.drop (List.Sublist.append (List.Sublist.refl (σ'.cells 150)) (List.Sublist.cons _ (List.Sublist.cons _ (List.Sublist.cons _ (List.Sublist.cons _ (List.Sublist.cons _ (List.Sublist.refl _)))))))
 exact S.rise.back fc_
end
theorem fmod_range (x n : Int) (hn : 0 < n) : 0 ≤ x.fmod n ∧ x.fmod n < n := by
 rw [Int.fmod_eq_emod_of_nonneg x (Int.le_of_lt hn)]
 exact ⟨Int.emod_nonneg _ (by lia), Int.emod_lt_of_pos _ hn⟩
theorem OutIs.unsnoc {vs : List Value} {l : List Str} {x : Str} (h : OutIs vs (l ++ [x])) : ∃ vs' t, vs = vs' ++ [.str x t] ∧ OutIs vs' l := by
 obtain ⟨ps, rfl, hp⟩ := h
 rcases List.eq_nil_or_concat ps with rfl | ⟨qs, q, rfl⟩
 · simp at hp
 · rw [List.concat_eq_append] at hp ⊢
   rw [List.map_append] at hp
   obtain ⟨e1, e2⟩ := List.append_inj' hp rfl
   have e2 : q.1 = x := by simpa using e2
   exact ⟨strValues qs, q.2, by simp [strValues, e2], qs, rfl, e1⟩
theorem pickS {l : List (Str × Tok)} {k : Int} (h0 : 0 ≤ k) (h1 : k < l.length) : ∃ t, (strValues l)[k.toNat]? = some (.str ((l.map (·.1)).getD k.toNat (ofString "")) t) := by
 have h : k.toNat < l.length := by lia
 refine ⟨l[k.toNat].2, ?_⟩
 simp [strValues, h]
section
variable {prog : Program} {w : World} {A : Around} {E : Value → Shared → Prop} {s : Shared} {B : Heap} {os : OsState} {G : Array GenState} {L : Addr} {m : Str → Option Value} {news : List Cell} {K : Frag}
theorem and2 {e1 e2 : PySem.Expr} {env : Env} {pos : Pos} {whole : Sem Value} {b1 b2 : Bool} {Q : Bool → Shared → Prop} (S : St B os G L m news s) (h1 : ∀ s, St B os G L m news s → wpAny (model prog w) A (isTrue e1 env (eval e1 env)) (fun b s' => b = b1 ∧ St B os G L m news s') E s)
 (h2 : ∀ s, St B os G L m news s → wpAny (model prog w) A (isTrue e2 env (eval e2 env)) (fun b s' => b = b2 ∧ St B os G L m news s') E s) (h : ∀ s', St B os G L m news s' → Q (b1 && b2) s') : wpAny (model prog w) A (isTrue (.BoolOp .And [e1, e2] pos) env whole) Q E s := by
 refine wpAny_isTrue_BoolOp (wpAny_allTrue_And_cons (wpAny_mono (h1 s S) ?_ fun _ _ z => z))
 rintro b s ⟨rfl, S⟩
 cases b with
 | false => exact ifF rfl (h _ S)
 | true =>
  refine ifT rfl (wpAny_allTrue_And_cons (wpAny_mono (h2 s S) ?_ fun _ _ z => z))
  rintro b s ⟨rfl, S⟩
  cases b with
  | false => exact ifF rfl (h _ S)
  | true => exact ifT rfl (wpAny_allTrue_And_nil (h _ S))
theorem and3 {e1 e2 e3 : PySem.Expr} {env : Env} {pos : Pos} {whole : Sem Value} {b1 b2 b3 : Bool} {Q : Bool → Shared → Prop} (S : St B os G L m news s) (h1 : ∀ s, St B os G L m news s → wpAny (model prog w) A (isTrue e1 env (eval e1 env)) (fun b s' => b = b1 ∧ St B os G L m news s') E s)
 (h2 : ∀ s, St B os G L m news s → wpAny (model prog w) A (isTrue e2 env (eval e2 env)) (fun b s' => b = b2 ∧ St B os G L m news s') E s) (h3 : ∀ s, St B os G L m news s → wpAny (model prog w) A (isTrue e3 env (eval e3 env)) (fun b s' => b = b3 ∧ St B os G L m news s') E s)
 (h : ∀ s', St B os G L m news s' → Q (b1 && (b2 && b3)) s') : wpAny (model prog w) A (isTrue (.BoolOp .And [e1, e2, e3] pos) env whole) Q E s := by
 refine wpAny_isTrue_BoolOp (wpAny_allTrue_And_cons (wpAny_mono (h1 s S) ?_ fun _ _ z => z))
 rintro b s ⟨rfl, S⟩
 cases b with
 | false => exact ifF rfl (h _ S)
 | true =>
  refine ifT rfl (wpAny_allTrue_And_cons (wpAny_mono (h2 s S) ?_ fun _ _ z => z))
  rintro b s ⟨rfl, S⟩
  cases b with
  | false => exact ifF rfl (h _ S)
  | true =>
   refine ifT rfl (wpAny_allTrue_And_cons (wpAny_mono (h3 s S) ?_ fun _ _ z => z))
   rintro b s ⟨rfl, S⟩
   cases b with
   | false => exact ifF rfl (h _ S)
   | true => exact ifT rfl (wpAny_allTrue_And_nil (h _ S))
theorem or2 {e1 e2 : PySem.Expr} {env : Env} {pos : Pos} {whole : Sem Value} {b1 b2 : Bool} {Q : Bool → Shared → Prop} (S : St B os G L m news s) (h1 : ∀ s, St B os G L m news s → wpAny (model prog w) A (isTrue e1 env (eval e1 env)) (fun b s' => b = b1 ∧ St B os G L m news s') E s)
 (h2 : ∀ s, St B os G L m news s → wpAny (model prog w) A (isTrue e2 env (eval e2 env)) (fun b s' => b = b2 ∧ St B os G L m news s') E s) (h : ∀ s', St B os G L m news s' → Q (b1 || b2) s') : wpAny (model prog w) A (isTrue (.BoolOp .Or [e1, e2] pos) env whole) Q E s := by
 refine wpAny_isTrue_BoolOp (wpAny_allTrue_Or_cons (wpAny_mono (h1 s S) ?_ fun _ _ z => z))
 rintro b s ⟨rfl, S⟩
 cases b with
 | true => exact ifT rfl (h _ S)
 | false =>
  refine ifF rfl (wpAny_allTrue_Or_cons (wpAny_mono (h2 s S) ?_ fun _ _ z => z))
  rintro b s ⟨rfl, S⟩
  cases b with
  | true => exact ifT rfl (h _ S)
  | false => exact ifF rfl (wpAny_allTrue_Or_nil (h _ S))
theorem cmpEq {k n : Int} {t : Tok} {nm : Str} {p1 p2 p3 : Pos} {c : Nat} {qual : Str} {scope : Scope} {f : Addr} {cd : Value} {whole : Sem Value} {Q : Bool → Shared → Prop} (S : St B os G L m news s) (hm : m nm = some (.int k t)) (h : ∀ s', St B os G L m news s' → Q (k == n) s') (hsk : scope.kind = .function := by rfl) (hl : (envOf qual scope L f cd).kindOf nm = some .local := by rfl) (hd : (nm == ("__debug__" : Str)) = false := by decide) :
 wpAny (model prog w) A (isTrue (.Compare (.Name nm p1) [.Eq] [.Constant (.int n) c p2] p3) (envOf qual scope L f cd) whole) Q E s :=
 wpAny_isTrue_Compare1 (ld S.F hm (cInt S (fun _ s S => PySem.P.eq_int (wpAny_truthy_bool (h _ S)))) hsk hl hd)
theorem cmpLt {k n : Int} {t : Tok} {nm : Str} {p1 p2 p3 : Pos} {c : Nat} {qual : Str} {scope : Scope} {f : Addr} {cd : Value} {whole : Sem Value} {Q : Bool → Shared → Prop} (S : St B os G L m news s) (hm : m nm = some (.int k t)) (h : ∀ s', St B os G L m news s' → Q (decide (k < n)) s') (hsk : scope.kind = .function := by rfl) (hl : (envOf qual scope L f cd).kindOf nm = some .local := by rfl) (hd : (nm == ("__debug__" : Str)) = false := by decide) :
 wpAny (model prog w) A (isTrue (.Compare (.Name nm p1) [.Lt] [.Constant (.int n) c p2] p3) (envOf qual scope L f cd) whole) Q E s :=
 wpAny_isTrue_Compare1 (ld S.F hm (cInt S (fun _ s S => PyProof.Rows.lt_int (wpAny_truthy_bool (h _ S)))) hsk hl hd)
theorem lenLt {n : Int} {D : Addr} {l : List Value} {nn : Nat} {nm : Str} {p0 p1 p2 p3 p4 : Pos} {c : Nat} {qual : Str} {scope : Scope} {f : Addr} {cd : Value} {whole : Sem Value} {Q : Bool → Shared → Prop} (C : Cx K B) (S : St B os G L m news s) (e : nsIn K mainGlobals (ofString "len") = some none) (hm : m nm = some (.ref D)) (hD : (D, listOf l.toArray nn) ∈ news) (hz : l.length < 100000) (h : ∀ s', St B os G L m news s' → Q (decide ((l.length : Int) < n)) s') (hsk : scope.kind = .function := by rfl) (hl : (envOf qual scope L f cd).kindOf nm = some .local := by rfl) (hd : (nm == ("__debug__" : Str)) = false := by decide)
 (hlen : (envOf qual scope L f cd).kindOf (ofString "len") = some .globalImplicit := by rfl) :
 wpAny (model prog w) A (isTrue (.Compare (.Call (.Name (ofString "len") p0) [.Name nm p1] [] p4) [.Lt] [.Constant (.int n) c p2] p3) (envOf qual scope L f cd) whole) Q E s := by
 refine wpAny_isTrue_Compare1 (wpAny_Call_ofName (bltS C S e PySem.boot_len (by decide) ?_ hsk hlen))
 refine PyProof.Rows.callWith_builtin1 (spliced_more (ld S.F hm (spliced_none ?_) hsk hl hd))
 exact lenL S hD (by lia) (fun _ s S => cInt S (fun _ s S => PyProof.Rows.lt_int (wpAny_truthy_bool (h _ S))))
theorem lenGt {n : Int} {D : Addr} {l : List Value} {nn : Nat} {nm : Str} {p0 p1 p2 p3 p4 : Pos} {c : Nat} {qual : Str} {scope : Scope} {f : Addr} {cd : Value} {whole : Sem Value} {Q : Bool → Shared → Prop} (C : Cx K B) (S : St B os G L m news s) (e : nsIn K mainGlobals (ofString "len") = some none) (hm : m nm = some (.ref D)) (hD : (D, listOf l.toArray nn) ∈ news) (hz : l.length < 100000) (h : ∀ s', St B os G L m news s' → Q (decide (n < (l.length : Int))) s') (hsk : scope.kind = .function := by rfl) (hl : (envOf qual scope L f cd).kindOf nm = some .local := by rfl) (hd : (nm == ("__debug__" : Str)) = false := by decide)
 (hlen : (envOf qual scope L f cd).kindOf (ofString "len") = some .globalImplicit := by rfl) :
 wpAny (model prog w) A (isTrue (.Compare (.Call (.Name (ofString "len") p0) [.Name nm p1] [] p4) [.Gt] [.Constant (.int n) c p2] p3) (envOf qual scope L f cd) whole) Q E s := by
 refine wpAny_isTrue_Compare1 (wpAny_Call_ofName (bltS C S e PySem.boot_len (by decide) ?_ hsk hlen))
 refine PyProof.Rows.callWith_builtin1 (spliced_more (ld S.F hm (spliced_none ?_) hsk hl hd))
 exact lenL S hD (by lia) (fun _ s S => cInt S (fun _ s S => PyProof.Rows.gt_int (wpAny_truthy_bool (h _ S))))
end
noncomputable def putA (l : List (Str × Str)) (k v : Str) : List (Str × Str) := if l.any (fun p => p.1 = k) then l.map (fun p => if p.1 = k then (p.1, v) else p) else l ++ [(k, v)]
theorem stored_put {l : List (Str × Str × Tok)} {k v : Str} {t : Tok} : ∃ l', stored (tkv l) k (.str v t) = tkv l' ∧ tps l' = putA (tps l) k v := by
 have e : ∀ b : Bool, (tkv l).any (fun kv => kv.1 = k) = b → (tps l).any (fun p => p.1 = k) = b := by
  intro b h
  rw [← h]
  simp [tkv, tps, List.any_map, Function.comp_def]
 unfold stored putA
 cases q : (tkv l).any (fun kv => kv.1 = k) with
 | true =>
  rw [if_pos rfl, if_pos (e _ q)]
  refine ⟨l.map fun p => if p.1 = k then (p.1, v, t) else p, ?_, ?_⟩
  · simp only [tkv, List.map_map]
    refine List.map_congr_left fun p hp => ?_
    simp only [Function.comp]
    split <;> rfl
  · simp only [tps, List.map_map]
    refine List.map_congr_left fun p hp => ?_
    simp only [Function.comp]
    split <;> rfl
 | false =>
  rw [if_neg (by decide), if_neg (by rw [e _ q]; decide)]
  exact ⟨l ++ [(k, v, t)], by simp [tkv], by simp [tps]⟩
end Mine
end
section
open PySem PySem.W PySem.Calls PyProof.Rows PySem.Spec
open PySem.Str (ofString)
namespace Mine
section
variable {prog : Program} {w : World} {A : Around} {E : Value → Shared → Prop} {s s' : Shared} {B : Heap} {os : OsState} {G : Array GenState} {L P D : Addr} {m : Str → Option Value} {news rest : List Cell} {Q : Value → Shared → Prop}
theorem forN {R : Result → Shared → Prop} {x : Str} {px : Pos} {body : List Stmt} {qual : Str} {scope : Scope} {f : Addr} {cd : Value} {l it : Addr} {oit : Obj} {vs : List Value} (J : List Value → Array GenState → (Str → Option Value) → List Cell → Prop) (hh : A.handled = none)
 (S : St B os G L m ((it, oit) :: news) s) (hit : LI oit l 0) (hJ : J vs G m news) (hl : ∀ {rem G m news}, J rem G m news → NumsAt B news l vs)
 (turn : ∀ v rem G m news oit s, J (v :: rem) G m news → St B os G L (updM m x v) ((it, oit) :: news) s →
  wpAny (model prog w) A (execs body (envOf qual scope L f cd)) (Turned B os L (it, oit) R J rem) (notedBy (model prog w) A (envOf qual scope L f cd) fun e s' => R (.error e) s') s)
 (fin : ∀ G m news s, J [] G m news → St B os G L m news s → R (.ok .next) s)
 (hk : scope.kind = .function := by rfl) (hx : (envOf qual scope L f cd).kindOf x = some .local := by rfl) :
 codeAny (model prog w) A (.forLoop (.Name x px) (.ref it) body [] (envOf qual scope L f cd)) R s :=
 forCore J hh S hit hJ hl (fun v rem G m news oit _ s hJ _ S => wpAny_pure (wpAny_assign_Name (stS S (fun s S => turn v rem G m news oit s hJ S) hk hx))) fin
theorem itemN {value slice : PySem.Expr} {D : Addr} {l : List Value} {x : Value} {k : Int} {u : Tok} (S : St B os G L m news s) (hl : NumsAt B news D l) (h0 : 0 ≤ k) (hk : l[k.toNat]? = some x) (h : Q x s)
 (hs : subscripted slice false (.ref D) (.int k u) = operate [.ref D, .int k u] (getItem (.ref D) (.int k u)) := by with_unfolding_all rfl) (hz : l.length ≤ 1000 := by simp) : wpAny (model prog w) A (subscriptTail value slice (.ref D) (.int k u)) Q E s := by
 have hlt : k.toNat < l.length := (List.getElem?_eq_some_iff.mp hk).1
 refine subscriptTail_builtinR (hl.is S).typeIs slot_list_getitem.lookup (wpAny_getItem_list (Q := fun r s' => r = x ∧ Q r s') (hl.is S) h0 (by lia) (by simpa using hk) ⟨rfl, h⟩) hs
theorem ifPut {p1 p2 p3 p4 p5 p6 p7 p8 p9 p10 p11 p12 p13 : Pos} {k1 k2 k3 k4 k5 : Nat} {d r : Int} {tr : Tok} {key v : Str} {ad : Addr} {oD : Obj} {at' : List (Str × Str × Tok)} {qual : Str} {scope : Scope} {f : Addr} {cd : Value} {Q : Flow → Shared → Prop}
 (S : St B os G L m ((ad, oD) :: rest) s) (hd : DicO prog w oD (tkv at')) (hz : at'.length < 900) (mr : m (ofString "rest") = some (.int r tr)) (ma : m (ofString "attrs") = some (.ref ad)) (hd0 : d ≠ 0) (hd1 : d.natAbs < 1000)
 (hk : scope.kind = .function) (l1 : (envOf qual scope L f cd).kindOf (ofString "rest") = some .local) (l2 : (envOf qual scope L f cd).kindOf (ofString "attrs") = some .local)
 (h : ∀ oD' at2 s', DicO prog w oD' (tkv at2) → tps at2 = (if ((r.fdiv d).fmod 2 == 1) = true then putA (tps at') key v else tps at') → at2.length ≤ at'.length + 1 → St B os G L m ((ad, oD') :: rest) s' → Q .next s') :
 wpAny (model prog w) A (exec (.If (.Compare (.BinOp (.BinOp (.Name (ofString "rest") p1) .FloorDiv (.Constant (.int d) k1 p2) p3) .Mod (.Constant (.int 2) k2 p4) p5) [.Eq] [.Constant (.int 1) k3 p6] p7)
  [.Assign [.Subscript (.Name (ofString "attrs") p8) (.Constant (.str key) k4 p9) p10] (.Constant (.str v) k5 p11) p12] [] p13) (envOf qual scope L f cd)) Q E s := by
 refine wpAny_If (wpAny_isTrue_Compare1 (wpAny_BinOp (wpAny_BinOp (ld S.F mr ?_ hk l1 (by decide)))))
 refine cInt S (fun _ s S => fdivS S hd0 hd1 (fun _ s S => cInt S (fun _ s S => modS S (by decide) (fun _ s S => cInt S (fun _ s S => PySem.P.eq_int (wpAny_truthy_bool ?_))))))
 cases q : (r.fdiv d).fmod 2 == 1 with
 | false =>
  refine ifF rfl (wpAny_execs_nil (h oD at' _ hd ?_ (by lia) S))
  rw [if_neg (by rw [q]; decide)]
 | true =>
  refine ifT rfl ?_
  refine wpAny_execs_cons (wpAny_Assign_Subscript ?_)
  refine cStr S (fun tv s S => ld S.F ma ?_ hk l2 (by decide))
  refine cStr S (fun tk s S => ?_)
  refine setItemD S (fun o' => .head) hd (by simp; lia) (fun o' s hd' S => wpAny_execs_nil ?_)
  obtain ⟨l', e1, e2⟩ := stored_put (l := at') (k := key) (v := v) (t := tv)
  refine h o' l' _ (e1 ▸ hd') (by rw [e2, if_pos q]) ?_ S
  have e3 := congrArg List.length e2
  rw [List.length_map] at e3
  rw [e3]
  unfold putA
  split <;> simp
theorem pick4 {x1 x2 x3 x4 nm : Str} {p1 p2 p3 p4 p5 p6 p7 p8 p9 : Pos} {k1 k2 k3 k4 k5 : Nat} {r : Int} {tr : Tok} {qual : Str} {scope : Scope} {f : Addr} {cd : Value} (S : St B os G L m news s) (mr : m nm = some (.int r tr))
 (h : ∀ y t s', y = [x1, x2, x3, x4].getD (r.fmod 4).toNat (ofString "") → y ∈ [x1, x2, x3, x4] → St B os G L m news s' → Q (.str y t) s')
 (hk : scope.kind = .function := by rfl) (l1 : (envOf qual scope L f cd).kindOf nm = some .local := by rfl) (hd : (nm == ("__debug__" : Str)) = false := by decide) :
 wpAny (model prog w) A (eval (.Subscript (.List [.Constant (.str x1) k1 p1, .Constant (.str x2) k2 p2, .Constant (.str x3) k3 p3, .Constant (.str x4) k4 p4] p5) (.BinOp (.Name nm p6) .Mod (.Constant (.int 4) k5 p7) p8) p9) (envOf qual scope L f cd)) Q E s := by
 refine Subscript_ (List_ ?_)
 refine spliced_more (cStr S (fun t1 s S => spliced_more (cStr S (fun t2 s S => spliced_more (cStr S (fun t3 s S => spliced_more (cStr S (fun t4 s S => spliced_none (listS S (fun ml s S => ?_))))))))))
 refine wpAny_BinOp (ld S.F mr (cInt S (fun _ s S => modS S (by decide) (fun _ s S => ?_))) hk l1 hd)
 obtain ⟨q0, q3⟩ := fmod_range r 4 (by decide)
 obtain ⟨ty, hpv⟩ := pickS (l := [(x1, t1), (x2, t2), (x3, t3), (x4, t4)]) (k := r.fmod 4) q0 (by simpa using q3)
 refine itemL S (.head _) q0 hpv ?_
 refine h _ _ _ rfl ?_ (S.drop (List.sublist_cons_self _ _))
 have hl : (r.fmod 4).toNat < [x1, x2, x3, x4].length := by simp; lia
 show [x1, x2, x3, x4].getD (r.fmod 4).toNat (ofString "") ∈ _
 rw [List.getD_eq_getElem?_getD, List.getElem?_eq_getElem hl]
 exact List.getElem_mem hl
end
end Mine
end
section
open PySem PySem.W PySem.Calls PyProof.Rows
open PySem.Str (ofString)
namespace Mine
inductive Ev
 | st (q : Str) (at' : List (Str × Str))
 | en (q : Str)
 | tx (y : Str)
noncomputable def Ev.kind : Ev → Str | .st .. => (ofString "start") | .en _ => (ofString "end") | .tx _ => (ofString "text")
noncomputable def Ev.name : Ev → Str | .st q _ => q | .en q => q | .tx y => y
noncomputable def Ev.attrs : Ev → List (Str × Str) | .st _ a => a | _ => []
noncomputable def Ev.txl : Ev → Nat | .tx y => y.length | _ => 0
noncomputable def txLen (es : List Ev) : Nat := (es.map Ev.txl).sum
inductive EvsAre (w : World) : List Cell → List Value → List Ev → Prop
 | nil : EvsAre w [] [] []
 | snoc {CC vs es e d oD n} {at' : List (Str × Str × Tok)} {ev : Ev} {t0 t1 : Tok} : EvsAre w CC vs es → (d == sysModules) = false → DicO progN w oD (tkv at') → tps at' = ev.attrs →
  EvsAre w ((e, listOf #[.str ev.kind t0, .str ev.name t1, .ref d] n) :: (d, oD) :: CC) (vs ++ [.ref e]) (es ++ [ev])
theorem EvsAre.len {w : World} {CC : List Cell} {vs : List Value} {es : List Ev} (h : EvsAre w CC vs es) : vs.length = es.length := by
 induction h with
 | nil => rfl
 | snoc _ _ _ _ ih => simp [ih]
noncomputable def Nm4 (q : Str) : Prop := q ∈ [(ofString "a"), (ofString "{u}a"), (ofString "{v}b"), (ofString "{w}b")]
noncomputable def spV (i : Nat) : Str := [(ofString ""), (ofString "preserve"), (ofString "default")].getD i (ofString "")
noncomputable abbrev keys4 : List Str := [(ofString "k"), (ofString "{u}k"), (ofString "{v}k"), (ofString "{w}k")]
noncomputable def atB (b1 b2 b3 : Bool) (sp : Nat) (fc : Bool) : List (Str × Str) :=
 let a1 := if b1 = true then putA [] (ofString "{v}l") (ofString "<") else []
 let a2 := if b2 = true then putA a1 (ofString "k") (ofString "1") else a1
 let a3 := if b3 = true then putA a2 (ofString "{u}k") (ofString "\t") else a2
 let a4 := if sp ≠ 0 then putA a3 xsp (spV (sp - 1)) else a3
 if fc = true then keys4.foldl (fun a k => putA a k (ofString "1")) a4 else a4
inductive AtOk (fc : Bool) : List (Str × Str) → Prop
 | mk (b1 b2 b3 : Bool) (sp : Nat) : sp < 4 → AtOk fc (atB b1 b2 b3 sp fc)
inductive Gen (fc : Bool) : List Ev → List Str → Nat → Bool → Prop
 | nil : Gen fc [] [] 0 false
 | root {q a} : Nm4 q → AtOk fc a → Gen fc [.st q a] [q] 1 false
 | opn {es ns b lt q a} : Gen fc es ns b lt → 0 < b → b < 7 → ns.length < 4 → Nm4 q → AtOk false a → Gen fc (es ++ [.st q a]) (ns ++ [q]) (b + 1) false
 | cls {es ns b lt q} : Gen fc es (ns ++ [q]) b lt → ns ≠ [] → Gen fc (es ++ [.en q]) ns b false
 | txt {es ns b y} : Gen fc es ns b false → 0 < b → Gen fc (es ++ [.tx y]) ns b true
theorem txLen_snoc {es : List Ev} {e : Ev} : txLen (es ++ [e]) = txLen es + e.txl := by simp [txLen]
theorem Gen.unTx {fc : Bool} {es : List Ev} {ns : List Str} {b : Nat} {lt : Bool} {z : Str} (h : Gen fc (es ++ [.tx z]) ns b lt) : Gen fc es ns b false ∧ 0 < b := by
 generalize e : es ++ [Ev.tx z] = l at h
 cases h with
 | nil => simp at e
 | root _ _ =>
  rcases es with _ | ⟨a, r⟩ <;> simp at e
 | opn _ _ _ _ _ _ =>
  have := (List.append_inj' e rfl).2
  simp at this
 | cls _ _ =>
  have := (List.append_inj' e rfl).2
  simp at this
 | txt h hb =>
  have := (List.append_inj' e rfl).1
  subst this
  exact ⟨h, hb⟩
theorem Gen.noTx {fc : Bool} {es : List Ev} {ns : List Str} {b : Nat} {lt : Bool} {ev : Ev} (h : Gen fc (es ++ [ev]) ns b lt) (hn : ∀ z, ev ≠ .tx z) : lt = false := by
 generalize e : es ++ [ev] = l at h
 cases h with
 | nil => rfl
 | root _ _ => rfl
 | opn _ _ _ _ _ _ => rfl
 | cls _ _ => rfl
 | txt h hb =>
  have := (List.append_inj' e rfl).2
  simp at this
  exact absurd this (hn _)
theorem Gen.pos {fc : Bool} {es : List Ev} {ns : List Str} {b : Nat} {lt : Bool} (h : Gen fc es ns b lt) (hb : 0 < b) : es ≠ [] := by
 cases h with
 | nil => exact absurd hb (by decide)
 | root _ _ => simp
 | opn _ _ _ _ _ _ => simp
 | cls _ _ => simp
 | txt h hb => simp
theorem Gen.zero {fc : Bool} {es : List Ev} {ns : List Str} {b : Nat} {lt : Bool} (h : Gen fc es ns b lt) (hb : b = 0) : es = [] ∧ ns = [] := by
 induction h with
 | nil => exact ⟨rfl, rfl⟩
 | root _ _ => cases hb
 | opn _ _ _ _ _ _ => cases hb
 | cls _ _ ih => have := (ih hb).2; simp at this
 | txt h hb' => lia
theorem pmE {α : Type} (e d i n l : α) (r : List α) : (e :: d :: i :: n :: l :: r).Perm (i :: n :: l :: e :: d :: r) :=
 permI [.inl _, .inl _, .inl _, .inl _, .inl _] _ [0, 1, 2, 3, 4] [2, 3, 4, 0, 1] rfl
theorem pmE2 {α : Type} (e d n l : α) (r : List α) : (e :: d :: n :: l :: r).Perm (n :: l :: e :: d :: r) :=
 permI [.inl _, .inl _, .inl _, .inl _] _ [0, 1, 2, 3] [2, 3, 0, 1] rfl
theorem starDic {p : Pos} {rest : List PySem.Expr} {env : Env} : starEach (.Dict [] [] p :: rest) env = (false, eval (.Dict [] [] p) env) :: starEach rest env := rfl
section
variable {w : World} {A : Around} {E : Value → Shared → Prop} {s : Shared} {R : Result → Shared → Prop} {B : Heap} {os : OsState} {G : Array GenState} {L : Addr} {m : Str → Option Value} {news rest : List Cell} {x pl : Addr} {b : Ab}
theorem spDic {M : Model} {env : Env} {pos : Pos} {Q : List Value → Shared → Prop} {rest : List PySem.Expr} {p : Pos} (h : wpAny M A (eval (.Dict [] [] p) env) (fun v s₁ => wpAny M A (spliced (backTo pos (starEach rest env))) (fun vs s₂ => Q (v :: vs) s₂) E s₁) E s) : wpAny M A (spliced (backTo pos (starEach (.Dict [] [] p :: rest) env))) Q E s := spliced_more h starDic
theorem endStmt {p1 p2 p3 p4 p5 p6 p7 p8 p9 p10 : Pos} {k1 : Nat} {nl el : Addr} {svp : List Value} {q : Str} {t : Tok} {nn ne : Nat} {vs : List Value} {CC : List Cell} {es : List Ev} {qual : Str} {scope : Scope} {f : Addr} {cd : Value} {Q : Flow → Shared → Prop}
 (S : St B os G L m ((nl, listOf (svp ++ [Value.str q t]).toArray nn) :: (el, listOf vs.toArray ne) :: (CC ++ rest)) s) (hlim : B.NoLimit) (hca : EvsAre w CC vs es) (hz : vs.length < 1000) (hz2 : svp.length < 1000) (me : m (ofString "events") = some (.ref el)) (mn : m (ofString "names") = some (.ref nl))
 (hk : scope.kind = .function) (l1 : (envOf qual scope L f cd).kindOf (ofString "events") = some .local) (l2 : (envOf qual scope L f cd).kindOf (ofString "names") = some .local) (hline : (p2.endLine == p9.line) = true) (hline2 : (p5.endLine == p6.line) = true)
 (h : ∀ e CC' s', EvsAre w CC' (vs ++ [.ref e]) (es ++ [.en q]) → St B os G L m ((nl, listOf svp.toArray (nn + 1)) :: (el, listOf (vs ++ [Value.ref e]).toArray (ne + 1)) :: (CC' ++ rest)) s' → Q .next s') :
 wpAny (model progN w) A (exec (.Expr (.Call (.Attribute (.Name (ofString "events") p1) (ofString "append") p2) [.List [.Constant (.str (ofString "end")) k1 p3, .Call (.Attribute (.Name (ofString "names") p4) (ofString "pop") p5) [] [] p6, .Dict [] [] p7] p8] [] p9) p10) (envOf qual scope L f cd)) Q E s := by
 refine wpAny_Expr_any ?_ (by show (scope.kind == .module && (scope.more.any _)) = false; rw [hk]; rfl) (by rfl)
 refine methodCall_S rfl rfl hline (ld S.F me ?_ hk l1 (by decide))
 intro pl
 refine appM S (List.Mem.tail _ (List.Mem.head _)) (callWith_method1 ?_ starLst)
 refine spLst (List_ ?_)
 refine spCon (cStr S (fun t5 s S => ?_))
 refine spCall (methodCall_S rfl rfl hline2 (ld S.F mn ?_ hk l2 (by decide)))
 intro pl
 refine popM S (List.Mem.head _) (callWith_method0 ?_)
 refine popL S Up.head (by lia) (fun s S => ?_)
 refine spDic (dict0S S hlim (fun d s hd S => spliced_none (listS S (fun e s S => spliced_none ?_))))
 refine appendL S (Up.tail (Up.tail (Up.tail Up.head))) (fun s S => ?_) (by lia)
 refine h e ((e, listOf #[.str (ofString "end") t5, .str q t, .ref d] 0) :: (d, dictO #[] 0) :: CC) _ (.snoc (ev := .en q) (at' := []) hca hd dictO_is rfl) (S.perm (pmE2 ..))
theorem textStmt {p1 p2 p3 p4 p5 p6 p7 p8 : Pos} {k1 : Nat} {el : Addr} {q : Str} {t : Tok} {ne : Nat} {vs : List Value} {CC : List Cell} {es : List Ev} {qual : Str} {scope : Scope} {f : Addr} {cd : Value} {Q : Flow → Shared → Prop}
 (S : St B os G L m ((el, listOf vs.toArray ne) :: (CC ++ rest)) s) (hlim : B.NoLimit) (hca : EvsAre w CC vs es) (hz : vs.length < 1000) (me : m (ofString "events") = some (.ref el)) (mt : m (ofString "text") = some (.str q t))
 (hk : scope.kind = .function) (l1 : (envOf qual scope L f cd).kindOf (ofString "events") = some .local) (l2 : (envOf qual scope L f cd).kindOf (ofString "text") = some .local) (hline : (p2.endLine == p7.line) = true)
 (h : ∀ e CC' s', EvsAre w CC' (vs ++ [.ref e]) (es ++ [.tx q]) → St B os G L m ((el, listOf (vs ++ [Value.ref e]).toArray (ne + 1)) :: (CC' ++ rest)) s' → Q .next s') :
 wpAny (model progN w) A (exec (.Expr (.Call (.Attribute (.Name (ofString "events") p1) (ofString "append") p2) [.List [.Constant (.str (ofString "text")) k1 p3, .Name (ofString "text") p4, .Dict [] [] p5] p6] [] p7) p8) (envOf qual scope L f cd)) Q E s := by
 refine wpAny_Expr_any ?_ (by show (scope.kind == .module && (scope.more.any _)) = false; rw [hk]; rfl) (by rfl)
 refine methodCall_S rfl rfl hline (ld S.F me ?_ hk l1 (by decide))
 intro pl
 refine appM S (List.Mem.head _) (callWith_method1 ?_ starLst)
 refine spLst (List_ ?_)
 refine spCon (cStr S (fun t5 s S => ?_))
 refine spNm (ld S.F mt ?_ hk l2 (by decide))
 refine spDic (dict0S S hlim (fun d s hd S => spliced_none (listS S (fun e s S => spliced_none ?_))))
 refine appendL S (Up.tail (Up.tail Up.head)) (fun s S => ?_) (by lia)
 refine h e ((e, listOf #[.str (ofString "text") t5, .str q t, .ref d] 0) :: (d, dictO #[] 0) :: CC) _ (.snoc (ev := .tx q) (at' := []) hca hd dictO_is rfl) (S.perm ?_)
 exact (List.Perm.cons _ (List.Perm.swap ..)).trans (List.Perm.swap ..)
inductive JE (w : World) (B : Heap) (na nl el : Addr) (fc : Bool) (len0 : Nat) (fix : List Cell) : List Value → (Str → Option Value) → List Cell → Prop
 | mk {rem m es b lt vs sv nn ne tb CC} {ns : List Str} (nums : ∃ ns : List Int, IntsAre rem ns) (mn : m (ofString "numbers") = some (.ref na)) (mn2 : m (ofString "names") = some (.ref nl)) (me : m (ofString "events") = some (.ref el)) (hca : EvsAre w CC vs es) (hsv : OutIs sv ns) (mb : m (ofString "begun") = some (.int (b : Nat) tb)) (hgen : Gen fc es ns b lt)
  (hb0 : b = 0 → rem.length = len0) (htl : txLen es + 3 * rem.length ≤ 189) (hel : es.length + rem.length ≤ 63) (hnl : ns.length ≤ 4) (hb7 : b ≤ 7) : JE w B na nl el fc len0 fix rem m ((nl, listOf sv.toArray nn) :: (el, listOf vs.toArray ne) :: (CC ++ fix))
theorem keysLoop {p1 p2 p3 p4 p5 p6 p7 p8 p9 p10 p11 p12 : Pos} {k1 k2 k3 k4 k5 : Nat} {ad : Addr} {oD : Obj} {at' : List (Str × Str × Tok)} {qual : Str} {scope : Scope} {f : Addr} {cd : Value} {Q : Flow → Shared → Prop}
 (hh : A.handled = none) (S : St B os G L m ((ad, oD) :: rest) s) (hd : DicO progN w oD (tkv at')) (hz : at'.length < 900) (ma : m (ofString "attrs") = some (.ref ad))
 (hk : scope.kind = .function) (l1 : (envOf qual scope L f cd).kindOf (ofString "key") = some .local) (l2 : (envOf qual scope L f cd).kindOf (ofString "attrs") = some .local)
 (h : ∀ m' oD' at2 s', (∀ y, y ≠ (ofString "key") → m' y = m y) → DicO progN w oD' (tkv at2) → tps at2 = keys4.foldl (fun a k => putA a k (ofString "1")) (tps at') → St B os G L m' ((ad, oD') :: rest) s' → Q .next s') :
 wpAny (model progN w) A (exec (.For (.Name (ofString "key") p1) (.List [.Constant (.str (ofString "k")) k1 p2, .Constant (.str (ofString "{u}k")) k2 p3, .Constant (.str (ofString "{v}k")) k3 p4, .Constant (.str (ofString "{w}k")) k4 p5] p6)
  [.Assign [.Subscript (.Name (ofString "attrs") p7) (.Name (ofString "key") p8) p9] (.Constant (.str (ofString "1")) k5 p10) p11] [] p12) (envOf qual scope L f cd)) Q E s := by
 refine wpAny_For (List_ ?_)
 refine spCon (cStr S (fun t1 s S => ?_))
 refine spCon (cStr S (fun t2 s S => ?_))
 refine spCon (cStr S (fun t3 s S => ?_))
 refine spCon (cStr S (fun t4 s S => spliced_none (listS S (fun kl s S => ?_))))
 refine iterL S (.head _) (fun it oit s hit S => ?_)
 refine forL (vs := [.str (ofString "k") t1, .str (ofString "{u}k") t2, .str (ofString "{v}k") t3, .str (ofString "{w}k") t4]) (n := 0) (l := kl) (fun rem G' m' news' => G' = G ∧ (∀ y, y ≠ (ofString "key") → m' y = m y) ∧ ∃ done todo oD' at2, OutIs rem todo ∧ keys4 = done ++ todo ∧ DicO progN w oD' (tkv at2) ∧ tps at2 = done.foldl (fun a k => putA a k (ofString "1")) (tps at') ∧ at2.length ≤ at'.length + done.length ∧ news' = (kl, listOf [Value.str (ofString "k") t1, .str (ofString "{u}k") t2, .str (ofString "{v}k") t3, .str (ofString "{w}k") t4].toArray 0) :: (ad, oD') :: rest) hh S hit
  ⟨rfl, fun _ _ => rfl, [], keys4, oD, at', ⟨[((ofString "k"), t1), ((ofString "{u}k"), t2), ((ofString "{v}k"), t3), ((ofString "{w}k"), t4)], rfl, rfl⟩, rfl, hd, rfl, by simp, rfl⟩ ?_ ?_ ?_ hk l1
 · rintro rem G' m' news' ⟨_, _, done, todo, oD', at2, _, _, _, _, _, rfl⟩
   exact .head _
 · intro v rem G' m' news' oit' s hJ S
   refine wabs (fun Q' E2 hQ' => ?_)
   obtain ⟨rfl, hm', done, todo, oD', at2, ⟨ps, e1, e2⟩, e3, hd', e4, hl, rfl⟩ := hJ
   cases ps with
   | nil => simp [strValues] at e1
   | cons p ps =>
   have e1' : v = .str p.1 p.2 ∧ rem = strValues ps := by simpa [strValues] using e1
   obtain ⟨rfl, rfl⟩ := e1'
   have hlen := congrArg List.length e3
   have hlen2 := congrArg List.length e2
   simp only [List.length_append, List.length_map, List.length_cons, List.length_nil] at hlen hlen2
   refine wpAny_execs_cons (wpAny_Assign_Subscript ?_)
   refine cStr S (fun tv s S => ld S.F (x := (ofString "attrs")) (v := .ref ad) ?_ ?_ hk l2 (by decide))
   · exact (updM_ne (by decide)).trans ((hm' _ (by decide)).trans ma)
   refine ld S.F (x := (ofString "key")) (v := .str p.1 p.2) (by rfl) ?_ hk l1 (by decide)
   refine setItemD S (fun o' => (Up.tail (Up.tail Up.head))) hd' (by simp; lia) (fun o' s hd2 S => wpAny_execs_nil ?_)
   obtain ⟨l', e5, e6⟩ := stored_put (l := at2) (k := p.1) (v := (ofString "1")) (t := tv)
   refine hQ' .next _ ⟨_, _, _, ⟨rfl, fun y hy => (updM_ne hy).trans (hm' y hy), done ++ [p.1], ps.map (·.1), o', l', ⟨ps, rfl, rfl⟩, ?_, e5 ▸ hd2, ?_, ?_, rfl⟩, S⟩
   · rw [e3, ← e2]; simp
   · rw [e6, e4]; simp
   · have e7 := congrArg List.length e6
     rw [List.length_map] at e7
     have : (putA (tps at2) p.1 (ofString "1")).length ≤ at2.length + 1 := by unfold putA; split <;> simp
     simp only [List.length_append, List.length_cons, List.length_nil]
     lia
 · rintro G' m' news' s ⟨rfl, hm', done, todo, oD', at2, ⟨ps, e1, e2⟩, e3, hd', e4, hl, rfl⟩ S
   cases ps with
   | cons p ps => simp [strValues] at e1
   | nil =>
   have : todo = [] := e2.symm
   subst this
   rw [List.append_nil] at e3
   rw [← e3] at e4
   exact h m' oD' at2 s hm' hd' e4 (S.drop (List.sublist_cons_self _ _))
set_option maxHeartbeats 4000000 in
theorem events_spec {na : Addr} {vs : List Value} {ns : List Int} {n0 : Int} {r0 : List Int} (C : Cx (hd.heap_1 w.params) B) (hroom : A.depth + 4 < recursionLimit) (hh : A.handled = none) (hu : A.units + 4 < cLine) (S : St B os G L m rest s) (hs : NumsAt B rest na vs) (hi : IntsAre vs ns) (hn : ns.length ≤ 63) (h0 : ns = n0 :: r0)
 (k : ∀ el vs' ne CC es sn b lt s', EvsAre w CC vs' (es ++ sn.reverse.map .en) → Gen (rwOf n0) es sn b lt → 0 < b → txLen es ≤ 189 → es.length ≤ 63 → sn.length ≤ 4 → St B os G L m ((el, listOf vs'.toArray ne) :: (CC ++ rest)) s' → R (.ok (.ret (.ref el))) s') :
 codeAny (model progN w) A (.call (.ref 175) ⟨[.ref na], []⟩) R s := by
 have hlen : vs.length ≤ 63 := by rw [hi.length]; exact hn
 obtain ⟨tn0, vr, hvs⟩ : ∃ t vr, vs = .int n0 t :: vr := by subst h0; cases hi; exact ⟨_, _, rfl⟩
 refine' call_fn (K := hd.heap_1 w.params) (binds := [((ofString "numbers"), .ref na)]) S C.X C.lim ?ho ?hcd ?hroom ?hbind ?hloc (fun L' oL s fc_ S => ?_) ?hco ?hgen ?hk ?hcell
 case ho => k_is
 case hcd => k_is
 case hco => rfl
 case hgen => rfl
 case hk => rfl
 case hcell => decide
 case hroom => first | lia | (simp only [depth_deeper]; lia) | (simp only [depth_deeper, depth_in1]; lia)
 case hbind => exact BindsTo.of_eq rfl
 case hloc => exact locs rfl
 refine wabs (fun Q0 E0 hQ0 => ?_)
 refine wpAny_execs_cons (wpAny_Assign_Name (List_ (spliced_none (listS S (fun nl s S => stS S (fun s S => ?_))))))
 refine wpAny_execs_cons (wpAny_Assign_Name (List_ (spliced_none (listS S (fun el s S => stS S (fun s S => ?_))))))
 refine wpAny_execs_cons (wpAny_Assign_Name (cInt S (fun tb s S => stS S (fun s S => ?_))))
 refine wpAny_execs_cons (wpAny_For (ld S.F (by rfl) ?_))
 have hs3 : NumsAt B ((L, oL) :: rest) na vs := hs.mono fun p hp => .tail _ hp
 refine iterN S (hs3.mono fun p hp => .tail _ (.tail _ hp)) (fun it oit s hit S => ?_)
 have S : St B os G L' _ ((it, oit) :: (nl, listOf [].toArray 0) :: (el, listOf [].toArray 0) :: ([] ++ ((L, oL) :: rest))) s := S.perm (List.Perm.cons _ (List.Perm.swap ..))
 refine forN (vs := vs) (l := na) (fun rem G' m news => G' = G ∧ JE w B na nl el (rwOf n0) vs.length ((L, oL) :: rest) rem m news) hh S hit ⟨rfl, .mk (ns := []) (es := []) (b := 0) (lt := false) (CC := []) (sv := []) (vs := []) (tb := tb) ⟨_, hi⟩ (by rfl) (by rfl) (by rfl) .nil ⟨[], rfl, rfl⟩ (by rfl) .nil (fun _ => rfl) (by simp [txLen]; lia) (by simpa using hlen) (by decide) (by decide)⟩ ?_ ?_ ?_
 · rintro rem G' m' news' ⟨_, hJ⟩
   cases hJ
   exact hs3.mono fun p hp => .tail _ (.tail _ (List.mem_append.mpr (.inr hp)))
 · rintro v rem G' m' news' oit' s ⟨rfl, hJ⟩ S
   refine wpAny_mono (Q := fun fl s₃ => fl = .next ∧ ∃ G'' m'' news'', (G'' = G' ∧ JE w B na nl el (rwOf n0) vs.length ((L, oL) :: rest) rem m'' news'') ∧ St B os G'' L' m'' ((it, oit') :: news'') s₃) ?_ (by rintro fl s ⟨rfl, h⟩; exact h) (fun _ _ z => z)
   refine wabs (fun Q' E' hQ' => ?_)
   cases hJ with
   | @mk es b lt vs' sv nn ne tb CC ns' nums mn mn2 me hca hsv mb hgen hb0 htl hel hnl hb7 =>
   obtain ⟨nn', hints⟩ := nums
   cases hints with
   | cons x tx hrem =>
   refine wpAny_execs_cons (Assign_Tuple (wpAny_Call_ofName (bltS C S (by k_is) (v := .builtin "divmod") (by decide +kernel) (by decide) ?_)))
   refine PyProof.Rows.callWith_builtin1 (spNm (ld S.F (by rfl) ?_)) starNm
   refine spCon (cInt S (fun _ s S => spliced_none ?_))
   refine divmodS S (by decide) (by decide) (fun ta tr tk s S => ?_)
   refine unpack2S S hh (.head _) (fun s S => ?_)
   have S := S.drop (List.sublist_cons_self _ _)
   obtain ⟨hk0, hk4⟩ := fmod_range x 4 (by decide)
   generalize x.fmod 4 = kd at S hk0 hk4
   generalize x.fdiv 4 = r at S
   obtain ⟨m2, S, er, ek, eb, en, en2, ee⟩ : ∃ m2, St B os G' L' m2 ((it, oit') :: (nl, listOf sv.toArray nn) :: (el, listOf vs'.toArray ne) :: (CC ++ ((L, oL) :: rest))) s ∧ m2 (ofString "rest") = some (.int r tr) ∧ m2 (ofString "kind") = some (.int kd tk) ∧ m2 (ofString "begun") = some (.int (b : Nat) tb) ∧ m2 (ofString "numbers") = some (.ref na) ∧ m2 (ofString "names") = some (.ref nl) ∧ m2 (ofString "events") = some (.ref el) := ⟨_, S, by rfl, by rfl, by exact mb, by exact mn, by exact mn2, by exact me⟩
   have hvl : vs'.length = es.length := hca.len
   have hsl : sv.length = ns'.length := hsv.length
   simp only [List.length_cons] at htl hel
   show wpAny _ _ (execs _ _) _ _ _
   refine S.hide (fun N hN S => ?_)
   refine wpAny_execs_cons (wpAny_If (or2 S (b1 := ((b : Nat) : Int) == 0) (b2 := decide (kd < 2) && (decide (((b : Nat) : Int) < 7) && decide ((sv.length : Int) < 4))) (fun s S => cmpEq S eb (fun s S => ⟨rfl, S⟩))
    (fun s S => and3 S (fun s S => cmpLt S ek (fun s S => ⟨rfl, S⟩)) (fun s S => cmpLt S eb (fun s S => ⟨rfl, S⟩)) (fun s S => lenLt C S (by k_is) en2 (by rw [hN]; exact (List.Mem.tail _ (List.Mem.head _))) (by lia) (fun s S => ⟨rfl, S⟩)) (fun s S => ⟨rfl, S⟩)) (fun s S => ?_)))
   by_cases hc1 : ((((b : Nat) : Int) == 0) || (decide (kd < 2) && (decide (((b : Nat) : Int) < 7) && decide ((sv.length : Int) < 4)))) = true
   · refine ifT hc1 ?_
     have hcond : b = 0 ∨ (b < 7 ∧ ns'.length < 4) := by
      rw [hsl] at hc1
      simp only [Bool.or_eq_true, Bool.and_eq_true, beq_iff_eq, decide_eq_true_eq] at hc1
      lia
     refine wpAny_execs_cons (wpAny_Assign_Name (dict0S S C.lim (fun ad s hadm S => stS S (fun s S => ?_))))
     obtain ⟨m3, S, er, eb, en, en2, ee, ea⟩ : ∃ m3, St B os G' L' m3 ((ad, dictO #[] 0) :: N) s ∧ m3 (ofString "rest") = some (.int r tr) ∧ m3 (ofString "begun") = some (.int (b : Nat) tb) ∧ m3 (ofString "numbers") = some (.ref na) ∧ m3 (ofString "names") = some (.ref nl) ∧ m3 (ofString "events") = some (.ref el) ∧ m3 (ofString "attrs") = some (.ref ad) := ⟨_, S, by exact er, by exact eb, by exact en, by exact en2, by exact ee, by rfl⟩
     refine wpAny_execs_cons (ifPut (at' := []) S dictO_is (by simp) er ea (by decide) (by decide) rfl rfl rfl (fun oD1 at1 s hD1 e1 hl1 S => ?_))
     refine wpAny_execs_cons (ifPut S hD1 (by simp at hl1; lia) er ea (by decide) (by decide) rfl rfl rfl (fun oD2 at2 s hD2 e2 hl2 S => ?_))
     refine wpAny_execs_cons (ifPut S hD2 (by simp at hl1; lia) er ea (by decide) (by decide) rfl rfl rfl (fun oD3 at3 s hD3 e3 hl3 S => ?_))
     refine stmt_cut2 (fun s => ∃ oD4 at4 sp, sp < 4 ∧ DicO progN w oD4 (tkv at4) ∧ tps at4 = (if sp ≠ 0 then putA (tps at3) xsp (spV (sp - 1)) else tps at3) ∧ at4.length ≤ 4 ∧ St B os G' L' m3 ((ad, oD4) :: N) s) ?_ ?_
     · intro Qc hQc
       refine wpAny_If (wpAny_isTrue_Compare1 (wpAny_BinOp (wpAny_BinOp (ld S.F er ?_))))
       refine cInt S (fun _ s S => fdivS S (by decide) (by decide) (fun _ s S => cInt S (fun _ s S => modS S (by decide) (fun _ s S => cInt S (fun _ s S => PyProof.Rows.ne_int (wpAny_truthy_bool ?_))))))
       obtain ⟨z0, z4⟩ := fmod_range (r.fdiv 32) 4 (by decide)
       cases q : ((r.fdiv 32).fmod 4 != 0) with
       | false => exact ifF rfl (wpAny_execs_nil (hQc _ ⟨oD3, at3, 0, by decide, hD3, rfl, by simp at hl1; lia, S⟩))
       | true =>
        refine ifT rfl ?_
        have q1 : (r.fdiv 32).fmod 4 ≠ 0 := by simpa using q
        refine wpAny_execs_cons (wpAny_Assign_Subscript (Subscript_ (List_ ?_)))
        refine spCon (cStr S (fun t1 s S => ?_))
        refine spCon (cStr S (fun t2 s S => ?_))
        refine spCon (cStr S (fun t3 s S => spliced_none (listS S (fun ml s S => ?_))))
        refine wpAny_BinOp (wpAny_BinOp (wpAny_BinOp (ld S.F er ?_)))
        refine cInt S (fun _ s S => fdivS S (by decide) (by decide) (fun _ s S => cInt S (fun _ s S => modS S (by decide) (fun _ s S => cInt S (fun _ s S => subS S (fun _ s S => ?_))))))
        obtain ⟨tv, hpv⟩ := pickS (l := [((ofString ""), t1), ((ofString "preserve"), t2), ((ofString "default"), t3)]) (k := (r.fdiv 32).fmod 4 - 1) (by lia) (by simp; lia)
        refine itemL S (List.Mem.head _) (by lia) hpv ?_
        have S := S.drop (List.sublist_cons_self _ _)
        refine ld S.F ea (cStr S (fun _ s S => ?_))
        refine setItemD S (fun o' => .head) hD3 (by simp; simp at hl1; lia) (fun o' s hd' S => wpAny_execs_nil ?_)
        obtain ⟨l', e5, e6⟩ := stored_put (l := at3) (k := xsp) (v := spV (((r.fdiv 32).fmod 4).toNat - 1)) (t := tv)
        refine hQc _ ⟨o', l', ((r.fdiv 32).fmod 4).toNat, by lia, ?_, ?_, ?_, S⟩
        · rw [← e5]
          have e7 : ((r.fdiv 32).fmod 4 - 1).toNat = ((r.fdiv 32).fmod 4).toNat - 1 := by lia
          rw [e7] at hd'
          exact hd'
        · rw [e6, if_pos (by lia)]
        · have e7 := congrArg List.length e6
          rw [List.length_map] at e7
          have : (putA (tps at3) xsp (spV (((r.fdiv 32).fmod 4).toNat - 1))).length ≤ at3.length + 1 := by unfold putA; split <;> simp
          simp at hl1
          lia
     · rintro s ⟨oD4, at4, sp, hsp, hD4, e4, hl4, S⟩
       refine stmt_cut2 (fun s => ∃ m5 oD5 at5, DicO progN w oD5 (tkv at5) ∧ tps at5 = (if (decide (b = 0) && rwOf n0) = true then keys4.foldl (fun a k => putA a k (ofString "1")) (tps at4) else tps at4) ∧ (∀ y, y ≠ (ofString "key") → m5 y = m3 y) ∧ St B os G' L' m5 ((ad, oD5) :: N) s) ?_ ?_
       · intro Qc hQc
         refine wpAny_If (and2 S (b1 := decide (b = 0)) (b2 := rwOf n0) (fun s S => cmpEq S eb (fun s S => ⟨?_, S⟩)) (fun s S => wpAny_isTrue_Compare1 (wpAny_BinOp (Subscript_ (ld S.F en ?_)))) (fun s S => ?_))
         · by_cases hb : b = 0
           · subst hb; rfl
           · rw [decide_eq_false hb, beq_eq_false_iff_ne]; lia
         · refine cInt S (fun _ s S => itemN S ((hs3.mono fun p hp => .tail _ (by rw [hN]; exact .tail _ (.tail _ (.tail _ (List.mem_append_right _ hp))))) : NumsAt B _ na vs) (by decide) (x := .int n0 tn0) (by rw [hvs]; rfl) ?_ (hz := by lia))
           exact cInt S (fun _ s S => modS S (by decide) (fun _ s S => cInt S (fun _ s S => PySem.P.eq_int (wpAny_truthy_bool ⟨rfl, S⟩))))
         · cases q : (decide (b = 0) && rwOf n0) with
           | false => exact ifF rfl (wpAny_execs_nil (hQc _ ⟨m3, oD4, at4, hD4, by rw [q, if_neg (by decide)], fun _ _ => rfl, S⟩))
           | true =>
            refine ifT rfl (wpAny_execs_cons (keysLoop hh S hD4 (by lia) ea rfl rfl rfl (fun m5 oD5 at5 s hm5 hD5 e5 S => wpAny_execs_nil ?_)))
            exact hQc _ ⟨m5, oD5, at5, hD5, by rw [q, if_pos rfl]; exact e5, hm5, S⟩
       · rintro s ⟨m5, oD5, at5, hD5, e5, hm5, S⟩
         have eb := (hm5 (ofString "begun") (by decide)).trans eb
         have er := (hm5 (ofString "rest") (by decide)).trans er
         have en := (hm5 (ofString "numbers") (by decide)).trans en
         have en2 := (hm5 (ofString "names") (by decide)).trans en2
         have ee := (hm5 (ofString "events") (by decide)).trans ee
         have ea := (hm5 (ofString "attrs") (by decide)).trans ea
         clear hm5
         refine wpAny_execs_cons (wpAny_Expr_any ?_ (by rfl) (by rfl))
         refine methodCall_KW (ld S.F en2 (appM S (.tail _ (by rw [hN]; exact (List.Mem.tail _ (List.Mem.head _)))) (callWith_method1 ?_ starSub)))
         refine spSub (pick4 S er (fun y ty s _ hy S => spliced_none ?_))
         subst hN
         refine appendL S (Up.tail (Up.tail Up.head)) (fun s S => ?_) (by lia)
         refine wpAny_execs_cons (wpAny_Expr_any ?_ (by rfl) (by rfl))
         refine methodCall_KW (ld S.F ee (appM S (List.Mem.tail _ (List.Mem.tail _ (List.Mem.tail _ (List.Mem.head _)))) (callWith_method1 ?_ starLst)))
         refine spLst (List_ ?_)
         refine spCon (cStr S (fun t5 s S => ?_))
         refine spSub (Subscript_ (ld S.F en2 (minus1 S (fun _ s S => lastS S (List.Mem.tail _ (List.Mem.tail _ (List.Mem.head _))) ?_))))
         refine spNm (ld S.F ea (spliced_none (listS S (fun e s S => spliced_none ?_))))
         refine appendL S (Up.tail (Up.tail (Up.tail (Up.tail Up.head)))) (fun s S => ?_) (by lia)
         refine wpAny_execs_cons (wpAny_AugAssign_Name (ldn S.F eb (cInt S (fun _ s S => PySem.AutoIntOps.iadd_0 ?_))))
         refine stS S.tk (fun s S => ?_)
         have S := S.perm (pmE ..)
         have e6 : tps at5 = atB ((r.fdiv 4).fmod 2 == 1) ((r.fdiv 8).fmod 2 == 1) ((r.fdiv 16).fmod 2 == 1) sp (decide (b = 0) && rwOf n0) := by
          rw [e5, e4, e3, e2, e1]; rfl
         have hat : AtOk (decide (b = 0) && rwOf n0) (tps at5) := e6 ▸ .mk _ _ _ _ hsp
         have eb1 : (((b : Nat) : Int) + 1) = ((b + 1 : Nat) : Int) := by lia
         rw [eb1] at S
         refine wpAny_execs_nil (wpAny_execs_nil (hQ' _ _ ⟨rfl, G', _, _, ⟨rfl, .mk (lt := false) ⟨_, hrem⟩ (by exact en) (by exact en2) (by exact ee) (.snoc (ev := .st y (tps at5)) hca hadm hD5 rfl) (hsv.snoc y ty) (by rfl) ?_ (fun h => by lia) ?_ ?_ ?_ ?_⟩, S⟩))
         · by_cases hb : b = 0
           · subst hb
             obtain ⟨rfl, rfl⟩ := hgen.zero rfl
             exact .root hy hat
           · rw [decide_eq_false hb] at hat
             have := hcond.resolve_left hb
             exact .opn hgen (by lia) this.1 this.2 hy hat
         · rw [txLen_snoc]; show txLen es + 0 + _ ≤ _; lia
         · simp; lia
         · simp
           by_cases hb : b = 0
           · subst hb
             obtain ⟨rfl, rfl⟩ := hgen.zero rfl
             decide
           · have := hcond.resolve_left hb; lia
         · rcases hcond with h | h <;> lia
   · refine ifF (by simpa using hc1) ?_
     have hbp : 0 < b := by
      false_or_by_contra
      have : b = 0 := by lia
      subst this
      exact hc1 rfl
     refine wpAny_execs_cons (wpAny_If (and2 S (b1 := kd == 2) (b2 := decide (1 < (sv.length : Int))) (fun s S => cmpEq S ek (fun s S => ⟨rfl, S⟩)) (fun s S => lenGt C S (by k_is) en2 (by rw [hN]; exact (List.Mem.tail _ (List.Mem.head _))) (by lia) (fun s S => ⟨rfl, S⟩)) (fun s S => ?_)))
     by_cases hc2 : (kd == 2 && decide (1 < (sv.length : Int))) = true
     · refine ifT hc2 ?_
       have hl2 : 1 < sv.length := by
        have := of_decide_eq_true (Bool.and_eq_true_iff.mp hc2).2
        lia
       obtain ⟨ts0, tl, rfl⟩ : ∃ ts0 tl, ns' = ts0 ++ [tl] := by
        rcases List.eq_nil_or_concat ns' with rfl | ⟨a, b, h⟩
        · simp only [List.length_nil] at hsl; lia
        · exact ⟨a, b, by rw [h, List.concat_eq_append]⟩
       obtain ⟨svp, tt, rfl, hsvp⟩ := OutIs.unsnoc (l := ts0) hsv
       subst hN
       have S : St B os G' L' m2 ((nl, listOf (svp ++ [Value.str tl tt]).toArray nn) :: (el, listOf vs'.toArray ne) :: (CC ++ ((it, oit') :: (L, oL) :: rest))) s := S.perm ((List.Perm.swap ..).trans (List.Perm.cons _ ((List.Perm.swap ..).trans (List.Perm.cons _ List.perm_middle.symm))))
       refine wpAny_execs_cons (endStmt S C.lim hca (by lia) (by simp at hsl hnl; lia) ee en2 rfl rfl rfl rfl rfl (fun e CC' s hca' S => ?_))
       have S : St B os G' L' m2 ((it, oit') :: (nl, listOf svp.toArray (nn + 1)) :: (el, listOf (vs' ++ [Value.ref e]).toArray (ne + 1)) :: (CC' ++ ((L, oL) :: rest))) s := S.perm ((List.Perm.cons _ (List.Perm.cons _ List.perm_middle)).trans ((List.Perm.cons _ (List.Perm.swap ..)).trans (List.Perm.swap ..)))
       refine wpAny_execs_nil (wpAny_execs_nil (wpAny_execs_nil (hQ' _ _ ⟨rfl, G', _, _, ⟨rfl, .mk ⟨_, hrem⟩ en en2 ee hca' hsvp eb (.cls hgen ?_) (fun h => by lia) ?_ ?_ ?_ hb7⟩, S⟩)))
       · rintro rfl
         rw [hsl] at hl2
         simp at hl2
       · rw [txLen_snoc]; show txLen es + 0 + _ ≤ _; lia
       · simp; lia
       · simp at hnl; lia
     · refine ifF (by simpa using hc2) ?_
       refine wpAny_execs_cons (wpAny_Assign_Name (pick4 S er (fun y ty s _ hy4 S => ?_)))
       have hy : y.length ≤ 3 := by
        have : ∀ z ∈ [(ofString " x "), (ofString "\n"), (ofString "<&>"), (ofString " ")], z.length ≤ 3 := by decide
        exact this y hy4
       clear hy4
       refine stS S (fun s S => ?_)
       obtain ⟨m3, S, eb, en, en2, ee, et⟩ : ∃ m3, St B os G' L' m3 N s ∧ m3 (ofString "begun") = some (.int (b : Nat) tb) ∧ m3 (ofString "numbers") = some (.ref na) ∧ m3 (ofString "names") = some (.ref nl) ∧ m3 (ofString "events") = some (.ref el) ∧ m3 (ofString "text") = some (.str y ty) := ⟨_, S, by exact eb, by exact en, by exact en2, by exact ee, by rfl⟩
       cases hca with
       | nil => exact absurd rfl (hgen.pos hbp)
       | @snoc CC0 vs0 es0 e0 d0 oD0 n0' at0 ev t0 t1' hca0 hd0 hD0 he0 =>
       subst hN
       refine wpAny_execs_cons (wpAny_If (wpAny_isTrue_Compare1 (Subscript_ (Subscript_ (ld S.F ee (minus1 S (fun _ s S => lastS S (List.Mem.tail _ (List.Mem.tail _ (List.Mem.head _))) ?_)))))))
       refine cInt S (fun _ s S => itemL S (l := [.str ev.kind t0, .str ev.name t1', .ref d0]) (List.Mem.tail _ (List.Mem.tail _ (List.Mem.tail _ (List.Mem.head _)))) (by decide) rfl (cStr S (fun _ s S => PySem.P.eq_str (wpAny_truthy_bool ?_))))
       have other : (∀ z, ev ≠ .tx z) → (ev.kind.cps.toList == (ofString "text").cps.toList) = false := by
        cases ev with
        | st _ _ => exact fun _ => (by decide : ((ofString "start").cps.toList == (ofString "text").cps.toList) = false)
        | en _ => exact fun _ => (by decide : ((ofString "end").cps.toList == (ofString "text").cps.toList) = false)
        | tx z => exact fun h => absurd rfl (h z)
       by_cases htx : ∃ z, ev = .tx z
       · obtain ⟨z, rfl⟩ := htx
         refine ifT (by rfl) ?_
         obtain ⟨hg0, _⟩ := hgen.unTx
         rw [txLen_snoc] at htl
         have hzl : z.length ≤ 189 := by have : txLen es0 + z.length + 3 * (rem.length + 1) ≤ 189 := htl; lia
         refine wpAny_execs_cons (wpAny_AugAssign_Subscript_any (Subscript_ (ld S.F ee (minus1 S (fun _ s S => lastS S (List.Mem.tail _ (List.Mem.tail _ (List.Mem.head _))) ?_)))))
         refine cInt S (fun _ s S => getItemL (k := 1) S (l := [.str (ofString "text") t0, .str z t1', .ref d0]) (List.Mem.tail _ (List.Mem.tail _ (List.Mem.tail _ (List.Mem.head _)))) rfl (by simp) ?_)
         refine ld S.F et (PyProof.Rows.iadd_str (fun t2 tk => ?_) (by rw [PySem.sizeLine_eq]; lia))
         refine setItemL (k := 1) S.tk (l := [.str (ofString "text") t0, .str z t1', .ref d0]) (q := [.str (ofString "text") t0, .str (z ++ y) t2, .ref d0]) rfl (Up.tail (Up.tail (Up.tail Up.head))) (by simp) (by decide) (fun s S => ?_)
         refine wpAny_execs_nil (wpAny_execs_nil (wpAny_execs_nil (wpAny_execs_nil (hQ' _ _ ⟨rfl, G', _, _, ⟨rfl, .mk ⟨_, hrem⟩ en en2 ee (.snoc (ev := .tx (z ++ y)) hca0 hd0 hD0 he0) hsv eb (.txt hg0 hbp) (fun h => by lia) ?_ ?_ hnl hb7⟩, S⟩))))
         · rw [txLen_snoc]
           have h1 : txLen es0 + z.length + 3 * (rem.length + 1) ≤ 189 := htl
           show txLen es0 + (z ++ y).length + _ ≤ _
           rw [len_app]; lia
         · simp at hel ⊢; lia
       · have hn : ∀ z, ev ≠ .tx z := fun z e => htx ⟨z, e⟩
         refine ifF (other hn) ?_
         have S : St B os G' L' m3 ((el, listOf (vs0 ++ [Value.ref e0]).toArray ne) :: ((((e0, listOf #[.str ev.kind t0, .str ev.name t1', .ref d0] n0') :: (d0, oD0) :: CC0)) ++ ((it, oit') :: (nl, listOf sv.toArray nn) :: (L, oL) :: rest))) s := S.perm (permI [.inl _, .inl _, .inl _, .inl _, .inl _, .inr _, .inl _] _ [0, 1, 2, 3, 4, 5, 6] [2, 3, 4, 5, 0, 1, 6] rfl)
         refine wpAny_execs_cons (textStmt S C.lim (.snoc hca0 hd0 hD0 he0) (by lia) ee et rfl rfl rfl rfl (fun e CC' s hca' S => ?_))
         have S : St B os G' L' m3 ((it, oit') :: (nl, listOf sv.toArray nn) :: (el, listOf (vs0 ++ [Value.ref e0] ++ [Value.ref e]).toArray (ne + 1)) :: (CC' ++ ((L, oL) :: rest))) s := S.perm (permI [.inl _, .inr _, .inl _, .inl _, .inl _] _ [0, 1, 2, 3, 4] [2, 3, 0, 1, 4] rfl)
         have hlt := hgen.noTx hn
         subst hlt
         refine wpAny_execs_nil (wpAny_execs_nil (wpAny_execs_nil (wpAny_execs_nil (hQ' _ _ ⟨rfl, G', _, _, ⟨rfl, .mk ⟨_, hrem⟩ en en2 ee hca' hsv eb (.txt hgen hbp) (fun h => by lia) ?_ ?_ hnl hb7⟩, S⟩))))
         · rw [txLen_snoc]; show _ + y.length + _ ≤ _; lia
         · simp at hel ⊢; lia
 · rintro G' m' news' s ⟨rfl, hJ⟩ S
   cases hJ with
   | @mk es b lt vs' sv nn ne tb CC ns' nums mn mn2 me hca hsv mb hgen hb0 htl hel hnl hb7 =>
   have hbp : 0 < b := by
    false_or_by_contra
    have h1 := hb0 (by lia)
    rw [hvs] at h1
    simp at h1
   show wpAny _ _ (execs _ _) _ _ _
   refine wpAny_execs_cons (wpAny_While (whileS (n := ns'.length) (fun k G2 m2 news2 => G2 = G' ∧ m2 = m' ∧ ∃ cl ns2 vs2 sv2 nn2 ne2 CC2, k = ns2.length ∧ ns' = ns2 ++ cl ∧ news2 = (nl, listOf sv2.toArray nn2) :: (el, listOf vs2.toArray ne2) :: (CC2 ++ ((L, oL) :: rest)) ∧ EvsAre w CC2 vs2 (es ++ cl.reverse.map .en) ∧ OutIs sv2 ns2) S ⟨rfl, rfl, [], ns', vs', sv, nn, ne, CC, rfl, by simp, rfl, by simpa using hca, hsv⟩ ?_))
   rintro k' G2 m2 news2 s ⟨rfl, rfl, cl, ns2, vs2, sv2, nn2, ne2, CC2, rfl, ens, rfl, hca2, hsv2⟩ S
   have l1 := hca2.len
   have l2 := hsv2.length
   have l3 := congrArg List.length ens
   simp only [List.length_append, List.length_map, List.length_reverse, List.length_nil] at l1 l3 hel
   refine wpAny_isTrue_Compare1 (ld S.F mn2 (List_ (spliced_none (listS S (fun z s S => neNil S (List.Mem.tail _ (List.Mem.head _)) (List.Mem.head _) (by simp only [units_deeper]; lia) (wpAny_truthy_bool ?_))))))
   have S := S.drop (List.sublist_cons_self _ _)
   by_cases he : sv2 = []
   · refine ifF (by simp [he]) ?_
     have e0 : ns2 = [] := by
      rw [he] at l2
      exact List.eq_nil_of_length_eq_zero l2.symm
     subst e0
     rw [List.nil_append] at ens
     subst ens
     refine wpAny_execs_cons (wpAny_Return_some (ld S.F me ?_))
     have S : St B os G2 L' m2 ((L, oL) :: (nl, listOf sv2.toArray nn2) :: (el, listOf vs2.toArray ne2) :: (CC2 ++ rest)) s := S.perm (permI [.inl _, .inl _, .inr _, .inl _] _ [0, 1, 2, 3] [3, 0, 1, 2] rfl)
     refine hQ0 _ _ ?_
     exact k el vs2 ne2 CC2 es ns' b lt _ hca2 hgen hbp (by lia) (by lia) hnl ((S.back fc_).drop (List.sublist_cons_self _ _))
   · refine ifT (by simp [he]) ?_
     obtain ⟨ts0, tl, rfl⟩ : ∃ ts0 tl, ns2 = ts0 ++ [tl] := by
      rcases List.eq_nil_or_concat ns2 with rfl | ⟨a, b, h⟩
      · exact absurd (List.eq_nil_of_length_eq_zero l2) he
      · exact ⟨a, b, by rw [h, List.concat_eq_append]⟩
     obtain ⟨svp, tt, rfl, hsvp⟩ := OutIs.unsnoc (l := ts0) hsv2
     simp only [List.length_append, List.length_cons, List.length_nil] at l2 l3
     refine wpAny_execs_cons (endStmt S C.lim hca2 (by lia) (by lia) me mn2 rfl rfl rfl rfl rfl (fun e CC' s hca' S => ?_))
     refine wpAny_execs_nil ⟨rfl, ts0.length, _, _, _, by simp, ⟨rfl, rfl, tl :: cl, ts0, _, _, _, _, _, rfl, by rw [ens]; simp, rfl, ?_, hsvp⟩, S⟩
     simpa using hca'
end
noncomputable def stepA (c : Cfg) (b : Ab) : Ev → Option Ab
 | .st q a => startA c b q a
 | .en q => (qnA c (flushed c b) (cutN q).1 (cutN q).2).map fun z => ended z.2 z.1
 | .tx y => some { b with data := b.data ++ [y] }
structure EndOk (c : Cfg) (b : Ab) (q : Str) : Prop where
 ign : b.ign = 0
 fit : Fit b
 sane : Sane b
 nm : NameOk q
 qn : qnA c (flushed c b) (cutN q).1 (cutN q).2 ≠ none
 pr : b.pres.length < 900
 dc : b.dec.length < 900
 ns : b.nss.length < 900
 nn : b.nss ≠ []
noncomputable def StepOk (c : Cfg) (b : Ab) : Ev → Prop
 | .st q a => StartOk c b q a
 | .en q => EndOk c b q
 | .tx y => b.ign = 0 ∧ b.data.length < 1000
noncomputable def EvIs (w : World) (news : List Cell) (v : Value) (ev : Ev) : Prop := ∃ e d oD n t0 t1, ∃ at' : List (Str × Str × Tok), v = .ref e ∧ (e, listOf #[.str ev.kind t0, .str ev.name t1, .ref d] n) ∈ news ∧ (d, oD) ∈ news ∧ (d == sysModules) = false ∧ DicO progN w oD (tkv at') ∧ tps at' = ev.attrs
theorem EvIs.mono {w : World} {news news' : List Cell} {v : Value} {ev : Ev} (h : EvIs w news v ev) (hs : ∀ p ∈ news, p ∈ news') : EvIs w news' v ev :=
 let ⟨e, d, oD, n, t0, t1, at', h1, h2, h3, h4⟩ := h
 ⟨e, d, oD, n, t0, t1, at', h1, hs _ h2, hs _ h3, h4⟩
section
variable {w : World} {A : Around} {s : Shared} {R : Result → Shared → Prop} {B : Heap} {os : OsState} {G : Array GenState} {L : Addr} {m : Str → Option Value} {rest W T : List Cell} {σ : Wn} {c : Cfg} {x pl : Addr} {b : Ab}
set_option maxHeartbeats 4000000 in
theorem step_spec {v : Value} {ev : Ev} (H : Lam B 125 123) (C : Cx (hd.heap_1 w.params) B) (hroom : A.depth + 8 < recursionLimit) (hh : A.handled = none) (hu : A.units + 50 < cLine)
 (S : St B os G L m (σ.cells 150 ++ (T ++ rest)) s) (hT : Tb w T) (hW : WIs progN w c x pl b σ) (hxe : c.xe = false) (hqa : c.qa = false) (hev : EvIs w rest v ev) (hok : StepOk c b ev)
 (k : ∀ b2 σ' G' T' s', Tb w T' → stepA c b ev = some b2 → WIs progN w c x pl b2 σ' → St B os G' L m (σ'.cells 150 ++ (T' ++ rest)) s' → R (.ok (.ret .none)) s') :
 codeAny (model progN w) A (.call (.ref 189) ⟨[.ref x, v], []⟩) R s := by
 obtain ⟨e, d, oD, n, t0, t1, at', rfl, he, hd', hdm, hdic, hat⟩ := hev
 obtain ⟨⟨am, nz, a⟩, e1, e2, _⟩ := id hW
 have ho := nz.o
 have he' : (e, listOf [Value.str ev.kind t0, .str ev.name t1, .ref d].toArray n) ∈ rest := he
 refine' call_fn (K := hd.heap_1 w.params) (binds := [((ofString "target"), .ref x), ((ofString "event"), .ref e)]) S C.X C.lim ?ho ?hcd ?hroom ?hbind ?hloc (fun L' oL s fc_ S => ?_) ?hco ?hgen ?hk ?hcell
 case ho => k_is
 case hcd => k_is
 case hco => rfl
 case hgen => rfl
 case hk => rfl
 case hcell => decide
 case hroom => first | lia | (simp only [depth_deeper]; lia) | (simp only [depth_deeper, depth_in1]; lia)
 case hbind => exact BindsTo.of_eq rfl
 case hloc => exact locs rfl
 refine wabs (fun Q0 E0 hQ0 => ?_)
 have up : ∀ p ∈ rest, p ∈ (L, oL) :: (σ.cells 150 ++ (T ++ rest)) := fun p hp => .tail _ (List.mem_append.mpr (.inr (List.mem_append.mpr (.inr hp))))
 refine wpAny_execs_cons (wpAny_If (wpAny_isTrue_Compare1 (Subscript_ (ld S.F (by rfl) (cInt S (fun _ s S => itemL S (l := [.str ev.kind t0, .str ev.name t1, .ref d]) (up _ he') (by decide) rfl ?_))))))
 refine cStr S (fun _ s S => PySem.P.eq_str (wpAny_truthy_bool ?_))
 cases ev with
 | st q a' =>
  refine ifT (by rfl) ?_
  refine wpAny_execs_cons (wpAny_Expr_any ?_ (by rfl) (by rfl))
  refine methodCall_KW (ld S.F (by rfl) ?_)
  have S := St.sink (W := σ.cells 150) (r := T ++ rest) S
  refine methN S C.X e1 ho (by k_is) (by k_is) (by k_is) a.m5 ?_
  refine callWith_K (K := hd.heap_1 w.params) C.X (by k_is) ?_
  have up : ∀ p ∈ rest, p ∈ σ.cells 150 ++ ((L, oL) :: (T ++ rest)) := fun p hp => List.mem_append.mpr (.inr (.tail _ (List.mem_append.mpr (.inr hp))))
  refine spSub (Subscript_ (ld S.F (by rfl) (cInt S (fun _ s S => itemL S (l := [.str (ofString "start") t0, .str q t1, .ref d]) (up _ he') (by decide) rfl ?_))))
  refine spCall (wpAny_Call_ofName (bltS C S (by k_is) (v := .type "dict") (by decide +kernel) (by decide) (PyProof.Rows.callWith_type1 ?_ starSub)))
  refine spSub (Subscript_ (ld S.F (by rfl) (cInt S (fun _ s S => itemL S (l := [.str (ofString "start") t0, .str q t1, .ref d]) (up _ he') (by decide) rfl (spliced_none ?_)))))
  have hat' : tps at' = a' := hat
  have hal : at'.length ≤ 6 := by
   have := hok.al
   rw [← hat', List.length_map] at this
   exact this
  refine dictCopyS S C.lim (up _ hd') hdic hdm (by simp; lia) (fun D oD2 s hD2 hDm S => spliced_none ⟨S.X C.X, wpAny_call ?_⟩)
  have S : St B os G L' _ (σ.cells 150 ++ (T ++ ((D, oD2) :: (L, oL) :: rest))) s := S.perm (permI [.inl _, .inr _, .inl _, .inr _] _ [0, 1, 2, 3] [1, 3, 0, 2] rfl)
  refine start_spec (rest := (D, oD2) :: (L, oL) :: rest) (at' := at') H C (by first | lia | (simp only [depth_deeper]; lia)) hh (by simp only [units_deeper]; lia) S hT hW hxe hqa (.head _) hD2 hDm (by rw [hat']; exact hok) (fun b2 σ' G' T' s hT' hst hW' S => ?_)
  refine wpAny_execs_nil (wpAny_execs_nil ?_)
  have S : St B os G' L' _ ((L, oL) :: (D, oD2) :: (σ'.cells 150 ++ (T' ++ rest))) s := S.perm (permI [.inr _, .inr _, .inl _, .inl _] _ [0, 1, 2, 3] [3, 2, 0, 1] rfl)
  refine hQ0 _ _ ?_
  exact k b2 σ' G' T' _ hT' (by rw [← hst, hat']; rfl) hW' ((S.back fc_).drop (List.sublist_cons_self _ _))
 | en q =>
  refine ifF (by rfl) ?_
  refine wpAny_execs_cons (wpAny_If (wpAny_isTrue_Compare1 (Subscript_ (ld S.F (by rfl) (cInt S (fun _ s S => itemL S (l := [.str (ofString "end") t0, .str q t1, .ref d]) (up _ he') (by decide) rfl ?_))))))
  refine cStr S (fun _ s S => PySem.P.eq_str (wpAny_truthy_bool (ifT (by rfl) ?_)))
  refine wpAny_execs_cons (wpAny_Expr_any ?_ (by rfl) (by rfl))
  refine methodCall_KW (ld S.F (by rfl) ?_)
  have S := St.sink (W := σ.cells 150) (r := T ++ rest) S
  refine methN S C.X e1 ho (by k_is) (by k_is) (by k_is) a.m6 ?_
  refine callWith_K (K := hd.heap_1 w.params) C.X (by k_is) ?_
  have up : ∀ p ∈ rest, p ∈ σ.cells 150 ++ ((L, oL) :: (T ++ rest)) := fun p hp => List.mem_append.mpr (.inr (.tail _ (List.mem_append.mpr (.inr hp))))
  refine spSub (Subscript_ (ld S.F (by rfl) (cInt S (fun _ s S => itemL S (l := [.str (ofString "end") t0, .str q t1, .ref d]) (up _ he') (by decide) rfl (spliced_none ⟨S.X C.X, wpAny_call ?_⟩)))))
  refine end_spec (rest := (L, oL) :: (T ++ rest)) C (by first | lia | (simp only [depth_deeper]; lia)) hh S hW hok.ign hok.fit hok.sane hok.nm hok.qn hok.pr hok.dc hok.ns hok.nn (fun y b2 σ' G' s hq hW' S => ?_)
  refine wpAny_execs_nil (wpAny_execs_nil (wpAny_execs_nil ?_))
  refine hQ0 _ _ ?_
  exact k _ σ' G' T _ hT (by show Option.map _ (qnA c (flushed c b) (cutN q).1 (cutN q).2) = _; rw [hq]; rfl) hW' (S.rise.back fc_)
 | tx y =>
  refine ifF (by rfl) ?_
  refine wpAny_execs_cons (wpAny_If (wpAny_isTrue_Compare1 (Subscript_ (ld S.F (by rfl) (cInt S (fun _ s S => itemL S (l := [.str (ofString "text") t0, .str y t1, .ref d]) (up _ he') (by decide) rfl ?_))))))
  refine cStr S (fun _ s S => PySem.P.eq_str (wpAny_truthy_bool (ifF (by rfl) ?_)))
  refine wpAny_execs_cons (wpAny_Expr_any ?_ (by rfl) (by rfl))
  refine methodCall_KW (ld S.F (by rfl) ?_)
  have S := St.sink (W := σ.cells 150) (r := T ++ rest) S
  refine methN S C.X e1 ho (by k_is) (by k_is) (by k_is) a.m7 ?_
  refine callWith_K (K := hd.heap_1 w.params) C.X (by k_is) ?_
  have up : ∀ p ∈ rest, p ∈ σ.cells 150 ++ ((L, oL) :: (T ++ rest)) := fun p hp => List.mem_append.mpr (.inr (.tail _ (List.mem_append.mpr (.inr hp))))
  refine spSub (Subscript_ (ld S.F (by rfl) (cInt S (fun _ s S => itemL S (l := [.str (ofString "text") t0, .str y t1, .ref d]) (up _ he') (by decide) rfl (spliced_none ⟨S.X C.X, wpAny_call ?_⟩)))))
  refine data_spec (rest := (L, oL) :: (T ++ rest)) C (by first | lia | (simp only [depth_deeper]; lia)) S hW hok.1 hok.2 (fun σ' s hW' S => ?_)
  refine wpAny_execs_nil (wpAny_execs_nil (wpAny_execs_nil ?_))
  refine hQ0 _ _ ?_
  exact k _ σ' G T _ hT rfl hW' (S.rise.back fc_)
end
inductive WayOk (c : Cfg) : Ab → List Ev → Ab → Prop
 | nil {b} : WayOk c b [] b
 | cons {b e b1 r b2} : StepOk c b e → stepA c b e = some b1 → WayOk c b1 r b2 → WayOk c b (e :: r) b2
inductive EvsIn (w : World) (news : List Cell) : List Value → List Ev → Prop
 | nil : EvsIn w news [] []
 | cons {v e vs es} : EvIs w news v e → EvsIn w news vs es → EvsIn w news (v :: vs) (e :: es)
theorem EvsIn.mono {w : World} {news news' : List Cell} {vs : List Value} {es : List Ev} (h : EvsIn w news vs es) (hs : ∀ p ∈ news, p ∈ news') : EvsIn w news' vs es := by
 induction h with
 | nil => exact .nil
 | cons h _ ih => exact .cons (h.mono hs) ih
theorem EvsIn.snoc {w : World} {news : List Cell} {vs : List Value} {es : List Ev} {v : Value} {e : Ev} (h : EvsIn w news vs es) (hv : EvIs w news v e) : EvsIn w news (vs ++ [v]) (es ++ [e]) := by
 induction h with
 | nil => exact .cons hv .nil
 | cons h _ ih => exact .cons h ih
theorem EvsIn.len {w : World} {news : List Cell} {vs : List Value} {es : List Ev} (h : EvsIn w news vs es) : vs.length = es.length := by
 induction h with
 | nil => rfl
 | cons _ _ ih => simp [ih]
theorem EvsIn.unsnoc {w : World} {news : List Cell} {e : Ev} {es : List Ev} {vs : List Value} (h : EvsIn w news vs (es ++ [e])) : ∃ vs' v, vs = vs' ++ [v] ∧ EvsIn w news vs' es ∧ EvIs w news v e := by
 induction es generalizing vs with
 | nil =>
  cases h with
  | @cons v _ vs1 _ h hr =>
   cases hr
   exact ⟨[], v, rfl, .nil, h⟩
 | cons a r ih =>
  cases h with
  | @cons v _ vs1 _ h hr =>
   obtain ⟨vs', v', e1, e2, e3⟩ := ih hr
   exact ⟨v :: vs', v', by rw [e1]; rfl, .cons h e2, e3⟩
theorem EvsAre.evsIn {w : World} {CC : List Cell} {vs : List Value} {es : List Ev} (h : EvsAre w CC vs es) : EvsIn w CC vs es := by
 induction h with
 | nil => exact .nil
 | @snoc CC vs es e d oD n at' ev t0 t1 hca hd hD he ih =>
  exact (ih.mono fun p hp => .tail _ (.tail _ hp)).snoc ⟨e, d, oD, n, t0, t1, at', rfl, .head _, .tail _ (.head _), hd, hD, he⟩
section
variable {w : World} {A : Around} {E : Value → Shared → Prop} {s : Shared} {R : Result → Shared → Prop} {B : Heap} {os : OsState} {G : Array GenState} {L : Addr} {m : Str → Option Value} {rest T : List Cell} {σ : Wn} {c : Cfg} {x pl : Addr} {b : Ab}
theorem stepStmt {p1 p2 p3 p4 p5 : Pos} {nm : Str} {v : Value} {ev : Ev} {qual : Str} {scope : Scope} {f : Addr} {cd : Value} {Q : Flow → Shared → Prop} (H : Lam B 125 123) (C : Cx (hd.heap_1 w.params) B) (hroom : A.depth + 8 < recursionLimit) (hh : A.handled = none) (hu : A.units + 50 < cLine)
 (S : St B os G L m (σ.cells 150 ++ (T ++ rest)) s) (hT : Tb w T) (hW : WIs progN w c x pl b σ) (hxe : c.xe = false) (hqa : c.qa = false) (hev : EvIs w rest v ev) (hok : StepOk c b ev) (mt : m (ofString "target") = some (.ref x)) (me : m nm = some v)
 (hk : scope.kind = .function) (l0 : (envOf qual scope L f cd).kindOf (ofString "_law_step") = some .globalImplicit) (l1 : (envOf qual scope L f cd).kindOf (ofString "target") = some .local) (l2 : (envOf qual scope L f cd).kindOf nm = some .local) (hd' : (nm == ("__debug__" : Str)) = false)
 (k : ∀ b2 σ' G' T' s', Tb w T' → stepA c b ev = some b2 → WIs progN w c x pl b2 σ' → St B os G' L m (σ'.cells 150 ++ (T' ++ rest)) s' → Q .next s') :
 wpAny (model progN w) A (exec (.Expr (.Call (.Name (ofString "_law_step") p1) [.Name (ofString "target") p2, .Name nm p3] [] p4) p5) (envOf qual scope L f cd)) Q E s := by
 refine wpAny_Expr_any ?_ (by show (scope.kind == .module && (scope.more.any _)) = false; rw [hk]; rfl) (by rfl)
 refine wpAny_Call_ofName (globS C S (by k_is) ?_ hk l0)
 refine callWith_K (K := hd.heap_1 w.params) C.X (by k_is) ?_ starNm
 refine spNm (ld S.F mt (spNm (ld S.F me (spliced_none ⟨S.X C.X, wpAny_call ?_⟩) hk l2 hd')) hk l1)
 refine step_spec H C hroom hh hu S hT hW hxe hqa hev hok (fun b2 σ' G' T' s hT' hst hW' S => ?_)
 exact k b2 σ' G' T' s hT' hst hW' S
theorem stepLoop {p0 p1 p2 p3 p4 p5 : Pos} {nm : Str} {vs : List Value} {n : Nat} {es : List Ev} {b' : Ab} {l it : Addr} {oit : Obj} {qual : Str} {scope : Scope} {f : Addr} {cd : Value} (H : Lam B 125 123) (C : Cx (hd.heap_1 w.params) B) (hroom : A.depth + 8 < recursionLimit) (hh : A.handled = none) (hu : A.units + 50 < cLine)
 (S : St B os G L m ((it, oit) :: (σ.cells 150 ++ (T ++ rest))) s) (hit : LI oit l 0) (hl : (l, listOf vs.toArray n) ∈ rest) (hT : Tb w T) (hW : WIs progN w c x pl b σ) (hxe : c.xe = false) (hqa : c.qa = false) (hev : EvsIn w rest vs es) (hok : WayOk c b es b') (mt : m (ofString "target") = some (.ref x)) (hnm : (ofString "target") ≠ nm)
 (hk : scope.kind = .function) (l0 : (envOf qual scope L f cd).kindOf (ofString "_law_step") = some .globalImplicit) (l1 : (envOf qual scope L f cd).kindOf (ofString "target") = some .local) (l2 : (envOf qual scope L f cd).kindOf nm = some .local) (hd' : (nm == ("__debug__" : Str)) = false)
 (k : ∀ σ' G' m' T' s', Tb w T' → (∀ y, y ≠ nm → m' y = m y) → WIs progN w c x pl b' σ' → St B os G' L m' (σ'.cells 150 ++ (T' ++ rest)) s' → R (.ok .next) s') :
 codeAny (model progN w) A (.forLoop (.Name nm p0) (.ref it) [.Expr (.Call (.Name (ofString "_law_step") p1) [.Name (ofString "target") p2, .Name nm p3] [] p4) p5] [] (envOf qual scope L f cd)) R s := by
 refine forL (vs := vs) (n := n) (l := l) (fun rem G' m' news' => (∀ y, y ≠ nm → m' y = m y) ∧ ∃ σ' T' b1 es1, news' = σ'.cells 150 ++ (T' ++ rest) ∧ Tb w T' ∧ WIs progN w c x pl b1 σ' ∧ EvsIn w rest rem es1 ∧ WayOk c b1 es1 b') hh S hit ⟨fun _ _ => rfl, σ, T, b, es, rfl, hT, hW, hev, hok⟩ ?_ ?_ ?_ hk l2
 · rintro rem G' m' news' ⟨_, σ', T', b1, es1, rfl, _⟩
   exact List.mem_append.mpr (.inr (List.mem_append.mpr (.inr hl)))
 · intro v rem G' m' news' oit' s hJ S
   refine wabs (fun Q' E2 hQ' => ?_)
   obtain ⟨hm', σ', T', b1, es1, rfl, hT', hW', hev', hok'⟩ := hJ
   cases hev' with
   | @cons _ e _ es2 hv hrem =>
   cases hok' with
   | @cons _ _ b2 _ _ hso hst hrest =>
   have S : St B os G' L _ (σ'.cells 150 ++ (T' ++ ((it, oit') :: rest))) s := S.perm (permI [.inl _, .inr _, .inr _] _ [0, 1, 2] [1, 2, 0] rfl)
   refine wpAny_execs_cons (stepStmt (rest := (it, oit') :: rest) H C hroom hh hu S hT' hW' hxe hqa (hv.mono fun p hp => .tail _ hp) hso ((updM_ne hnm).trans ((hm' _ hnm).trans mt)) (if_pos rfl) hk l0 l1 l2 hd' (fun b3 σ2 G2 T2 s hT2 hst2 hW2 S => wpAny_execs_nil ?_))
   rw [hst] at hst2
   cases hst2
   exact hQ' .next _ ⟨G2, _, _, ⟨fun y hy => (updM_ne hy).trans (hm' y hy), σ2, T2, b2, es2, rfl, hT2, hW2, hrem, hrest⟩, S.perm (permI [.inr _, .inr _, .inl _] _ [0, 1, 2] [2, 0, 1] rfl)⟩
 · rintro G' m' news' s ⟨hm', σ', T', b1, es1, rfl, hT', hW', hev', hok'⟩ S
   cases hev'
   cases hok'
   exact k σ' G' m' T' s hT' hm' hW' S
end
end Mine
end
section
open PySem PySem.W PySem.Calls PyProof.Rows PySem.Builtin.Str
open PySem.Str (ofString)
namespace Mine
section
variable {prog : Program} {w : World} {A : Around} {E : Value → Shared → Prop} {s s' : Shared} {B : Heap} {os : OsState} {G : Array GenState} {L D : Addr} {m : Str → Option Value} {news news' : List Cell} {env : Env} {o : Obj} {Q : Value → Shared → Prop}
theorem subSlice {value : PySem.Expr} {lower upper : Option PySem.Expr} {p pos : Pos} {T id : String}
 (hl : typeLookup (.type T) "__getitem__" = pure (some (.builtin id)))
 (h : wpAny (model prog w) A (eval value env) (fun o s₁ => wpAny (model prog w) A (eval (.Slice lower upper none p) env) (fun i s₂ => s₂.TypeIs o T ∧ wpAny (model prog w) A (getItem o i) Q E s₂) E s₁) E s) :
 wpAny (model prog w) A (eval (.Subscript value (.Slice lower upper none p) pos) env) Q E s := by
 rw [eval_Subscript]
 refine wpAny_bind (wpAny_mono h (fun o s₁ h₁ => wpAny_bind (wpAny_holding (wpAny_mono h₁ (fun i s₂ h₂ => wpAny_bind (wpAny_standAt ?_)) fun _ _ x => x)))
  fun _ _ x => x)
 have fin : wpAny (model prog w) A (operate [i, o] (getItem o i)) (fun r s₃ => wpAny (model prog w) A (letTemporaryGo value o r >>= fun _ => pure r) Q E s₃) E s₂ :=
  wpAny_operating (wpAny_mono h₂.2 (fun r s₃ h₃ => wpAny_bind (wpAny_letTemporaryGo (wpAny_pure h₃))) fun _ _ x => x)
 refine wpAny_bind ?_
 rw [getitemInPython_of_ne h₂.1.not_modules]
 refine wpAny_bind (wpAny_specialOf h₂.1 hl ?_)
 first
  | exact wpAny_pure (wpAny_bind fin)
  | exact wpAny_bind (wpAny_pure (wpAny_bind fin))
  | exact wpAny_bind fin
theorem subSliceStr {value : PySem.Expr} {lower upper : Option PySem.Expr} {p pos : Pos}
 (h : wpAny (model prog w) A (eval value env) (fun o s₁ => wpAny (model prog w) A (evalPart lower env) (fun vl s₂ => wpAny (model prog w) A (evalPart upper env) (fun vu s₃ =>
  ∃ x t l u, o = .str x t ∧ vl = partValue l ∧ vu = partValue u ∧
   (sliceMade x t l u none).post Q { s₃ with heap := s₃.heap.push { cls := .type "slice", data := .fields #[vl, vu, .none] } }) E s₂) E s₁) E s) :
 wpAny (model prog w) A (eval (.Subscript value (.Slice lower upper none p) pos) env) Q E s := by
 refine subSlice (T := "str") F.slot_str_getitem.lookup (wpAny_mono h (fun o s₁ h₁ => wpAny_Slice (wpAny_mono h₁ (fun vl s₂ h₂ => wpAny_mono h₂ (fun vu s₃ h₃ => ?_) fun _ _ e => e) fun _ _ e => e)) fun _ _ e => e)
 obtain ⟨x, t, l, u, rfl, rfl, rfl, hQ⟩ := h₃
 rw [evalPart_none]
 exact wpAny_pure ⟨typeIs_str _ x t, wpAny_getItem_str_slice (l := l) (u := u) (st := none) ⟨_, Heap.get?_push_size _ rfl, rfl, rfl⟩ rfl hQ⟩
theorem midSubT {e : PySem.Expr} {p1 p2 p3 p4 p5 : Pos} {k1 k2 : Nat}
 (h : wpAny (model prog w) A (eval e env) (fun v s₁ => ∃ x t G' m' news', v = .str x t ∧ 2 ≤ x.length ∧ x.length ≤ 1000000 ∧ St B os G' L m' news' s₁ ∧ ∀ t' s', St B os G' L m' news' s' → Q (.str (midS x) t') s') E s) :
 wpAny (model prog w) A (eval (.Subscript e (.Slice (some (.Constant (.int 1) k1 p1)) (some (.UnaryOp .USub (.Constant (.int 1) k2 p2) p3)) none p4) p5) env) Q E s := by
 refine subSliceStr (wpAny_mono h ?_ fun _ _ z => z)
 rintro _ s ⟨x, t, G', m', news', rfl, h2, hz, S, h⟩
 rw [evalPart_some]
 refine wpAny_Constant_int ?_
 rw [evalPart_some]
 refine minus1 S.tk (fun u s S => ?_)
 refine ⟨x, t, some (1, _), some (-1, _), rfl, rfl, rfl, ?_⟩
 refine slice_post (pick_mid x _ _ h2) (by lia) (by lia) (by rw [PySem.sizeLine_eq]; lia) (fun y t' tk hy => ?_)
 have e : y = midS x := by
  refine Str.ext' (Array.toList_inj.mp ?_)
  rw [hy]
  show _ = (x.cps.toList.drop 1).dropLast
  have hl : x.length = x.cps.toList.length := by simp [Str.length]
  rw [hl, List.dropLast_eq_take, List.length_drop]
 rw [e]
 exact h _ _ (S.ext fun b o q => Heap.get?_push_of_some _ q)
theorem item0 {value slice : PySem.Expr} {D : Addr} {l : List Value} {x : Value} {n : Nat} {u : Tok} (S : St B os G L m news s) (hl : (D, listOf (x :: l).toArray n) ∈ news) (h : Q x s)
 (hs : subscripted slice false (.ref D) (.int 0 u) = operate [.ref D, .int 0 u] (getItem (.ref D) (.int 0 u)) := by with_unfolding_all rfl) : wpAny (model prog w) A (subscriptTail value slice (.ref D) (.int 0 u)) Q E s :=
 subscriptTail_builtinR (listOf_isList (S.get hl)).typeIs slot_list_getitem.lookup (wpAny_getItem_list (Q := fun r s' => r = x ∧ Q r s') (listOf_isList (S.get hl)) (by decide) (by decide) (by simp) ⟨rfl, h⟩) hs
end
end Mine
end
section
open PySem PySem.W PySem.Calls PyProof.Rows
open PySem.Str (ofString)
namespace Mine
structure PieceOk (c : Cfg) (way : List Ev) (e : Ev) (p : Str) : Prop where
 ex : ∃ bw b2, WayOk c (tgt c) way bw ∧ bw.out.length < 10000 ∧ StepOk c { bw with out := [] } e ∧ stepA c { bw with out := [] } e = some b2 ∧ Fit b2 ∧ JoinOk (ofString "") (flushed c b2).out = true ∧ p = Txt.join (ofString "") (flushed c b2).out
 len : p.length ≤ 200000
inductive Run2 (c : Cfg) : List Ev → List Str → List Ev → List Str → Prop
 | nil {way hs} : Run2 c way hs [] []
 | st {way hs q a p h tl r ps} : PieceOk c way (.st q a) p → 2 ≤ p.length → Txt.split (midS p) (ofString " ") = h :: tl → Run2 c (way ++ [.st q a]) (hs ++ [h]) r ps → Run2 c way hs (.st q a :: r) (p :: ps)
 | en {way hs w h q p r ps} : PieceOk c (way ++ [w]) (.en q) p → p = (ofString "</") ++ h ++ (ofString ">") → h.length ≤ 100000 → Run2 c way hs r ps → Run2 c (way ++ [w]) (hs ++ [h]) (.en q :: r) (p :: ps)
 | tx {way hs y p r ps} : PieceOk c way (.tx y) p → Run2 c way hs r ps → Run2 c way hs (.tx y :: r) (p :: ps)
noncomputable def Plain2 (c : Cfg) (evs : List Ev) : Prop := ∃ bw ps, WayOk c (tgt c) evs bw ∧ Run2 c [] [] evs ps ∧ JoinOk (ofString "") bw.out = true ∧ JoinOk (ofString "") ps = true ∧ Txt.join (ofString "") bw.out = Txt.join (ofString "") ps
section
variable {w : World} {A : Around} {E : Value → Shared → Prop} {s : Shared} {B : Heap} {os : OsState} {G : Array GenState} {L : Addr} {m : Str → Option Value} {rest T : List Cell} {σ : Wn} {c : Cfg} {x pl : Addr} {b : Ab}
structure M2 (m : Str → Option Value) (na el wl pc wy hs : Addr) : Prop where
 nu : m (ofString "numbers") = some (.ref na)
 ev : m (ofString "events") = some (.ref el)
 wh : m (ofString "whole") = some (.ref wl)
 pc : m (ofString "pieces") = some (.ref pc)
 wy : m (ofString "way") = some (.ref wy)
 hs : m (ofString "heads") = some (.ref hs)
theorem M2.of {m m' : Str → Option Value} {na el wl pc wy hs : Addr} (h : M2 m na el wl pc wy hs) (e : ∀ y, y ∈ [(ofString "numbers"), (ofString "events"), (ofString "whole"), (ofString "pieces"), (ofString "way"), (ofString "heads")] → m' y = m y) : M2 m' na el wl pc wy hs := by
 obtain ⟨h1, h2, h3, h4, h5, h6⟩ := h
 exact ⟨(e _ (by decide)).trans h1, (e _ (by decide)).trans h2, (e _ (by decide)).trans h3, (e _ (by decide)).trans h4, (e _ (by decide)).trans h5, (e _ (by decide)).trans h6⟩
theorem WIs.clearOut {n' : Nat} (h : WIs progN w c x pl b σ) : WIs progN w c x pl { b with out := [] } { σ with out := [], npl := n' } := by
 obtain ⟨⟨am, nz, a⟩, e1, e2, hda, hou, hde, hns, hpm, hps, hpn, x1, x2, x3⟩ := h
 exact ⟨⟨am, nz, a.same ⟨rfl, rfl, rfl, rfl, rfl, rfl, rfl, rfl, rfl⟩⟩, e1, e2, hda, ⟨[], rfl, rfl⟩, hde, hns, hpm, hps, hpn, x1, x2, x3⟩
theorem midS_len (p : Str) : (midS p).length ≤ p.length := by
 show ((p.cps.toList.drop 1).dropLast).toArray.size ≤ p.cps.size
 simp
 lia
theorem Run2.piece {c : Cfg} {way : List Ev} {hs : List Str} {e : Ev} {r : List Ev} {ps : List Str} (h : Run2 c way hs (e :: r) ps) : ∃ p ps2, ps = p :: ps2 ∧ PieceOk c way e p := by
 cases h with
 | st h _ _ _ => exact ⟨_, _, rfl, h⟩
 | en h _ _ _ => exact ⟨_, _, rfl, h⟩
 | tx h _ => exact ⟨_, _, rfl, h⟩
inductive JL (w : World) (c : Cfg) (fix : List Cell) (na el wl pc wy hs : Addr) (all : List Str) (rem : List Value) (m : Str → Option Value) : List Cell → Prop
 | mk {T wv wes hv hes pv pes es ps n1 n2 n3} (hT : Tb w T) (hwv : EvsIn w fix wv wes) (hhv : OutIs hv hes) (hpv : OutIs pv pes) (hes' : EvsIn w fix rem es) (hrun : Run2 c wes hes es ps) (hall : pes ++ ps = all) (M : M2 m na el wl pc wy hs) (hz1 : wes.length + rem.length ≤ 100) (hz2 : hes.length + rem.length ≤ 100) (hz3 : pes.length + rem.length ≤ 100) :
  JL w c fix na el wl pc wy hs all rem m (T ++ ((pc, listOf pv.toArray n1) :: (wy, listOf wv.toArray n2) :: (hs, listOf hv.toArray n3) :: fix))
inductive JN (B : Heap) (os : OsState) (G : Array GenState) (L : Addr) (fix : List Cell) : Shared → Prop
 | mk {na vs ns n0 r0 X m s} (hna : NumsAt B X na vs) (hi : IntsAre vs ns) (e : ns = n0 :: r0) (hn : ns.length ≤ 63) (mn : m (ofString "numbers") = some (.ref na)) (S : St B os G L m (X ++ fix) s) : JN B os G L fix s
set_option maxHeartbeats 8000000 in
theorem law_spec {sa L' fa : Addr} {cdA : Value} {vs : List Value} {ns : List Int} {Q : Flow → Shared → Prop} {name : Str} {params : Arguments} {body : List Stmt} {scope : Scope} {dV kV doc pm cdv ctv oc : Value} {an od : Option Addr} {osl : Array (Option Value)} (hf : (hd.heap_1 w.params).lookup 196 = some ⟨oc, od, .func (fnOf name (ofString "law") params body scope dV kV doc pm an cdv ctv), osl⟩)
 (hplain : ∀ (n0 : Int) es sn b lt, Gen (rwOf n0) es sn b lt → 0 < b → txLen es ≤ 189 → es.length ≤ 63 → sn.length ≤ 4 → Plain2 (cfgOf n0) (es ++ sn.reverse.map .en))
 (H : Lam B 125 123) (C : Cx (hd.heap_1 w.params) B) (hroom : A.depth + 20 < recursionLimit) (hh : A.handled = none) (hu : A.units + 60 < cLine) (S : St B os G L' (bindM [((ofString "script"), .ref sa)]) [(123, tabObj #[])] s) (hs : B.IsList sa vs.toArray) (hi : IntsAre vs ns) (hn : ns.length ≤ 63)
 (k : ∀ G' m' T news' s', Tb w T → St B os G' L' m' (T ++ news') s' → Q (.ret (.bool true)) s') : wpAny (model progN w) (A.deeper (envOf (ofString "law") scope L' fa cdA)) (execs body (envOf (ofString "law") scope L' fa cdA)) Q E s := by
 have e := hf.symm.trans (show (hd.heap_1 w.params).lookup 196 = _ by k_is)
 cases e
 have hlen : vs.length = ns.length := hi.length
 refine stmt_cut2 (JN B os G L' [(123, tabObj #[])]) ?_ ?_
 · intro Qc hQc
   refine wpAny_Assign_Name (wpAny_IfExp (wpAny_isTrue_Compare1 (ld S.F (by rfl) (List_ (spliced_none (listS S (fun z s S => neNilI S (S.F.lst hs) (.head _) (by simp only [units_deeper]; lia) (wpAny_truthy_bool ?_))))))))
   have S := S.drop (List.sublist_cons_self _ _)
   by_cases hv : vs = []
   · refine ifF (by simp [hv]) ?_
     refine List_ ?_
     refine spCon ?_
     refine cInt S (fun t1 s S => ?_)
     refine spCon ?_
     refine cInt S (fun t2 s S => ?_)
     refine spCon ?_
     refine cInt S (fun t3 s S => ?_)
     refine spCon ?_
     refine cInt S (fun t4 s S => ?_)
     refine spCon ?_
     refine cInt S (fun t5 s S => ?_)
     refine spCon ?_
     refine cInt S (fun t6 s S => ?_)
     refine spCon ?_
     refine cInt S (fun t7 s S => ?_)
     refine spCon ?_
     refine cInt S (fun t8 s S => ?_)
     refine spCon ?_
     refine cInt S (fun t9 s S => ?_)
     refine spCon ?_
     refine cInt S (fun t10 s S => ?_)
     refine spCon ?_
     refine cInt S (fun t11 s S => ?_)
     refine spliced_none ?_
     refine listS S (fun na s S => ?_)
     refine stS S (fun s S => ?_)
     exact hQc _ (.mk (X := [(na, _)]) (.inl ⟨0, .head _⟩) (.cons _ _ (.cons _ _ (.cons _ _ (.cons _ _ (.cons _ _ (.cons _ _ (.cons _ _ (.cons _ _ (.cons _ _ (.cons _ _ (.cons _ _ .nil))))))))))) rfl (by decide) (by rfl) S)
   · refine ifT (by simp [hv]) ?_
     refine ld S.F (by rfl) (stS S (fun s S => ?_))
     cases hi with
     | nil => exact absurd rfl hv
     | @cons n0 t0 vr r0 hr => exact hQc _ (.mk (X := []) (.inr hs) (.cons _ _ hr) rfl hn (by rfl) S)
 · intro s hJN
   cases hJN with
   | @mk na vs2 ns2 n0 r0 X m1 _ hna hi2 e2 hn2 mn S =>
   obtain ⟨tn0, vr, hvs⟩ : ∃ t vr, vs2 = .int n0 t :: vr := by subst e2; cases hi2; exact ⟨_, _, rfl⟩
   have hl2 : vs2.length ≤ 63 := by rw [hi2.length]; exact hn2
   refine wpAny_execs_cons (wpAny_Assign_Name (wpAny_Call_ofName (globS C S (by k_is) ?_)))
   refine callWith_K (K := hd.heap_1 w.params) C.X (by k_is) ?_ starNm
   refine spNm (ld S.F mn (spliced_none ⟨S.X C.X, wpAny_call ?_⟩))
   refine events_spec C (by simp only [depth_deeper]; lia) hh (by simp only [units_deeper]; lia) S (hna.mono fun p hp => List.mem_append_left _ hp) hi2 hn2 e2 (fun el vs' ne CC es sn b lt s hca hgen hb htl hel hsn S => stS S (fun s S => ?_))
   obtain ⟨bw, ps, hway, hrun, hj1, hj2, hj⟩ := hplain n0 es sn b lt hgen hb htl hel hsn
   have hev := hca.evsIn
   have hlen : vs'.length ≤ 67 := by rw [hca.len]; simp; lia
   generalize es ++ sn.reverse.map Ev.en = evs at hev hway hrun hca
   refine wpAny_execs_cons (wpAny_Assign_Name (List_ (spliced_none (listS S (fun wl s S => stS S (fun s S => ?_))))))
   refine wpAny_execs_cons (wpAny_Assign_Name (wpAny_Call_ofName (globS C S (by k_is) ?_)))
   refine callWith_K (K := hd.heap_1 w.params) C.X (by k_is) ?_ starNm
   refine spNm (ld S.F (by rfl) (spSub (Subscript_ (ld S.F (x := (ofString "numbers")) (v := .ref na) (by exact mn) ?_))))
   refine cInt S (fun _ s S => itemN S (hna.mono fun p hp => by simp [hp]) (by decide) (x := .int n0 tn0) (by rw [hvs]; rfl) (spliced_none ⟨S.X C.X, wpAny_call ?_⟩) (hz := by lia))
   refine target_spec C (by simp only [depth_deeper]; lia) hh S (fun σ x s hW S => stS S (fun s S => ?_))
   obtain ⟨m3, S, q1, q2, q3, q4⟩ : ∃ m3, St B os G L' m3 (σ.cells 150 ++ ([(123, tabObj #[])] ++ ((el, listOf vs'.toArray ne) :: (CC ++ X)))) s ∧ m3 (ofString "numbers") = some (.ref na) ∧ m3 (ofString "events") = some (.ref el) ∧ m3 (ofString "whole") = some (.ref wl) ∧ m3 (ofString "target") = some (.ref x) := ⟨_, S.perm ((permI [.inr _, .inl _, .inr _, .inr _, .inl _] [] [0, 1, 2, 3, 4] [0, 4, 1, 2, 3] rfl).trans (.of_eq (congrArg (fun z => σ.cells 150 ++ ([(123, tabObj #[])] ++ ((el, listOf vs'.toArray ne) :: (CC ++ z)))) (List.append_nil X)))), by exact mn, by rfl, by rfl, by rfl⟩
   have hev : EvsIn w ((el, listOf vs'.toArray ne) :: (CC ++ X)) vs' evs := hev.mono fun p hp => .tail _ (List.mem_append_left _ hp)
   have hna : NumsAt B ((el, listOf vs'.toArray ne) :: (CC ++ X)) na vs2 := hna.mono fun p hp => .tail _ (List.mem_append_right _ hp)
   have hel' : (el, listOf vs'.toArray ne) ∈ (el, listOf vs'.toArray ne) :: (CC ++ X) := .head _
   generalize (el, listOf vs'.toArray ne) :: (CC ++ X) = fix at S hev hna hel'
   clear hca
   refine wpAny_execs_cons (wpAny_For (ld S.F q2 ?_))
   refine iterL S (List.mem_append_right _ (List.mem_append_right _ hel')) (fun it oit s hit S => ?_)
   refine stepLoop (rest := fix) H C (by simp only [depth_deeper]; lia) hh (by simp only [units_deeper]; lia) S hit hel' (.inl rfl) hW rfl rfl hev hway q4 (by decide) rfl rfl rfl rfl (by decide) (fun σ1 G1 m4 T1 s hT1 hm4 hW1 S => ?_)
   have q1 := (hm4 (ofString "numbers") (by decide)).trans q1
   have q2 := (hm4 (ofString "events") (by decide)).trans q2
   have q3 := (hm4 (ofString "whole") (by decide)).trans q3
   clear hm4 q4 hway
   have hwl : (wl, listOf σ1.out.toArray σ1.npl) ∈ σ1.cells 150 ++ fix := by rw [← hW1.apl]; exact List.mem_append_left _ (by exact (List.Mem.tail _ (List.Mem.tail _ (List.Mem.tail _ (List.Mem.tail _ (List.Mem.tail _ (List.Mem.tail _ (List.Mem.tail _ (List.Mem.tail _ (List.Mem.head _))))))))))
   have hwo := hW1.out
   show wpAny _ _ (execs _ _) _ _ _
   have S := S.perm (List.perm_append_comm_assoc ..)
   have hev : EvsIn w (σ1.cells 150 ++ fix) vs' evs := hev.mono fun p hp => List.mem_append_right _ hp
   have hna : NumsAt B (σ1.cells 150 ++ fix) na vs2 := hna.mono fun p hp => List.mem_append_right _ hp
   have hel' : (el, listOf vs'.toArray ne) ∈ σ1.cells 150 ++ fix := List.mem_append_right _ hel'
   generalize σ1.cells 150 ++ fix = fix2 at S hev hna hel' hwl
   refine wpAny_execs_cons (wpAny_Assign_Name (List_ (spliced_none (listS S (fun pc s S => stS S (fun s S => ?_))))))
   refine wpAny_execs_cons (wpAny_Assign_Name (List_ (spliced_none (listS S (fun wy s S => stS S (fun s S => ?_))))))
   refine wpAny_execs_cons (wpAny_Assign_Name (List_ (spliced_none (listS S (fun hs s S => stS S (fun s S => ?_))))))
   obtain ⟨m5, S, M⟩ : ∃ m5, St B os G1 L' m5 (T1 ++ ((pc, listOf [].toArray 0) :: (wy, listOf [].toArray 0) :: (hs, listOf [].toArray 0) :: fix2)) s ∧ M2 m5 na el wl pc wy hs := ⟨_, S.perm (permI [.inl _, .inl _, .inl _, .inr _] _ [0, 1, 2, 3] [3, 2, 1, 0] rfl), ⟨by exact q1, by exact q2, by exact q3, by rfl, by rfl, by rfl⟩⟩
   clear q1 q2 q3
   refine wpAny_execs_cons (wpAny_For (ld S.F M.ev ?_))
   refine iterL S (List.mem_append_right _ (.tail _ (.tail _ (.tail _ hel')))) (fun it oit s hit S => ?_)
   refine forL (vs := vs') (n := ne) (l := el) (fun rem G' m' news' => JL w (cfgOf n0) fix2 na el wl pc wy hs ps rem m' news') hh S hit (.mk (wes := []) (hes := []) (pes := []) (wv := []) (hv := []) (pv := []) hT1 .nil ⟨[], rfl, rfl⟩ ⟨[], rfl, rfl⟩ hev hrun rfl M (by simp; lia) (by simp; lia) (by simp; lia)) ?_ ?_ ?_
   · intro rem G' m' news' hJ
     cases hJ
     exact List.mem_append_right _ (.tail _ (.tail _ (.tail _ hel')))
   · intro v rem G' m' news' oit' s hJ S
     refine wpAny_mono (Q := fun fl s₃ => fl = .next ∧ ∃ G'' m'' news'', JL w (cfgOf n0) fix2 na el wl pc wy hs ps rem m'' news'' ∧ St B os G'' L' m'' ((it, oit') :: news'') s₃) ?_ (by rintro fl s ⟨rfl, h⟩; exact h) (fun _ _ z => z)
     refine wabs (fun Q' E' hQ' => ?_)
     cases hJ with
     | @mk T wv wes hv hes pv pes es' ps' n1 n2 n3 hT hwv hhv hpv hes' hrun' hall M hz1 hz2 hz3 =>
     cases hes' with
     | @cons _ ev _ es2 hev1 hrem =>
     obtain ⟨p, ps2, rfl, hp⟩ := hrun'.piece
     obtain ⟨bw, b2, hway, hol, hso, hst, hfit, hjo, hpe⟩ := hp.ex
     have hplen := hp.len
     simp only [List.length_cons] at hz1 hz2 hz3
     have hwvl : wv.length = wes.length := hwv.len
     have hhvl : hv.length = hes.length := hhv.length
     have hpvl : pv.length = pes.length := hpv.length
     have S : St B os G' L' (updM m' (ofString "event") v) (T ++ ((it, oit') :: (pc, listOf pv.toArray n1) :: (wy, listOf wv.toArray n2) :: (hs, listOf hv.toArray n3) :: fix2)) s := S.perm (permI [.inl _, .inr _, .inl _, .inl _, .inl _] _ [0, 1, 2, 3, 4] [1, 0, 2, 3, 4] rfl)
     obtain ⟨m1, S, M, me⟩ : ∃ m1, St B os G' L' m1 (T ++ ((it, oit') :: (pc, listOf pv.toArray n1) :: (wy, listOf wv.toArray n2) :: (hs, listOf hv.toArray n3) :: fix2)) s ∧ M2 m1 na el wl pc wy hs ∧ m1 (ofString "event") = some v := ⟨_, S, M.of fun y hy => updM_ne (fun e => by subst e; revert hy; decide), by rfl⟩
     refine wpAny_execs_cons (wpAny_Assign_Name (List_ (spliced_none (listS S (fun ol s S => stS S (fun s S => ?_))))))
     refine wpAny_execs_cons (wpAny_Assign_Name (wpAny_Call_ofName (globS C S (by k_is) ?_)))
     refine callWith_K (K := hd.heap_1 w.params) C.X (by k_is) ?_ starNm
     refine spNm (ld S.F (by rfl) (spSub (Subscript_ (ld S.F (x := (ofString "numbers")) (v := .ref na) (by exact M.nu) ?_))))
     refine cInt S (fun _ s S => itemN S (hna.mono fun p hp => by simp [hp]) (by decide) (x := .int n0 tn0) (by rw [hvs]; rfl) (spliced_none ⟨S.X C.X, wpAny_call ?_⟩) (hz := by lia))
     refine target_spec C (by simp only [depth_deeper]; lia) hh S (fun σ x s hW S => stS S (fun s S => ?_))
     obtain ⟨rest3, er3⟩ : ∃ r, r = (it, oit') :: (pc, listOf pv.toArray n1) :: (wy, listOf wv.toArray n2) :: (hs, listOf hv.toArray n3) :: fix2 := ⟨_, rfl⟩
     have up3 : ∀ p ∈ fix2, p ∈ rest3 := fun p hp => by rw [er3]; exact .tail _ (.tail _ (.tail _ (.tail _ hp)))
     have hwy3 : (wy, listOf wv.toArray n2) ∈ rest3 := by rw [er3]; exact (List.Mem.tail _ (List.Mem.tail _ (List.Mem.head _)))
     obtain ⟨m3, S, M, me, mo, mt⟩ : ∃ m3, St B os G' L' m3 (σ.cells 150 ++ (T ++ rest3)) s ∧ M2 m3 na el wl pc wy hs ∧ m3 (ofString "event") = some v ∧ m3 (ofString "out") = some (.ref ol) ∧ m3 (ofString "target") = some (.ref x) :=
      ⟨_, by rw [er3]; exact S, M.of fun y hy => by rw [updM_ne (fun e => by subst e; revert hy; decide), updM_ne (fun e => by subst e; revert hy; decide)], by exact me, by rfl, by rfl⟩
     refine wpAny_execs_cons (wpAny_For (ld S.F M.wy ?_))
     refine iterL S (List.mem_append_right _ (List.mem_append_right _ hwy3)) (fun it2 oit2 s hit2 S => ?_)
     refine stepLoop (rest := rest3) H C (by simp only [depth_deeper]; lia) hh (by simp only [units_deeper]; lia) S hit2 hwy3 hT hW rfl rfl (hwv.mono up3) hway mt (by decide) rfl rfl rfl rfl (by decide) (fun σ2 G2 m4 T2 s hT2 hm4 hW2 S => ?_)
     have me := (hm4 (ofString "event") (by decide)).trans me
     have mo := (hm4 (ofString "out") (by decide)).trans mo
     have mt := (hm4 (ofString "target") (by decide)).trans mt
     have M : M2 m4 na el wl pc wy hs := M.of fun y hy => hm4 y (fun e => by subst e; revert hy; decide)
     clear hm4
     show wpAny _ _ (execs _ _) _ _ _
     have epl := hW2.apl
     have hol2 : σ2.out.length < 10000 := by rw [hW2.out.length]; exact hol
     refine wpAny_execs_cons (wpAny_Expr_any ?_ (by rfl) (by rfl))
     refine methodCall_KW (ld S.F (v := .ref σ2.pl) (by rw [epl]; exact mo) (clearM S (its := σ2.out.toArray) (n := σ2.npl) (List.mem_append_left _ (by exact (List.Mem.tail _ (List.Mem.tail _ (List.Mem.tail _ (List.Mem.tail _ (List.Mem.tail _ (List.Mem.tail _ (List.Mem.tail _ (List.Mem.tail _ (List.Mem.head _))))))))))) (callWith_method0 ?_)))
     refine clearL (news' := fun n' => { σ2 with out := [], npl := n' }.cells 150 ++ (T2 ++ rest3)) S (fun n' => Up.app (l := σ2.cells 150) (l' := { σ2 with out := [], npl := n' }.cells 150) (Up.tail (Up.tail (Up.tail (Up.tail (Up.tail (Up.tail (Up.tail (Up.tail Up.head)))))))) _) (by lia) (fun n' s S => ?_)
     have hW3 := hW2.clearOut (n' := n')
     clear hW2 hW
     refine wpAny_execs_cons (stepStmt (rest := rest3) H C (by simp only [depth_deeper]; lia) hh (by simp only [units_deeper]; lia) S hT2 hW3 rfl rfl (hev1.mono up3) hso mt me rfl rfl rfl rfl (by decide) (fun b3 σ4 G4 T4 s hT4 hst4 hW4 S => ?_))
     rw [hst] at hst4
     cases hst4
     refine wpAny_execs_cons (wpAny_Expr_any ?_ (by rfl) (by rfl))
     obtain ⟨⟨am, nz, a⟩, e1, _⟩ := id hW4
     refine methodCall_KW (ld S.F mt ?_)
     refine methN S C.X e1 nz.o (by k_is) (by k_is) (by k_is) a.m3 ?_
     refine callWith_K0 (K := hd.heap_1 w.params) (S.X C.X) (by k_is) (wpAny_call ?_)
     show codeAny _ _ (.call (.ref 106) ⟨[.ref x], []⟩) _ _
     rw [← e1]
     refine flush_good C (by simp only [depth_deeper]; lia) hh S (by rw [e1]; exact hW4) hfit.seen hfit.ln hfit.tl (by have := hfit.out; lia) hfit.pr (fun σ5 s hW5 S => ?_)
     have epl5 := hW5.apl
     refine wpAny_execs_cons (wpAny_Expr_any ?_ (by rfl) (by rfl))
     refine methodCall_S rfl rfl rfl (ld S.F M.pc ?_)
     intro pl
     refine appM S (its := pv.toArray) (n := n1) (List.mem_append_right _ (List.mem_append_right _ (by rw [er3]; exact (List.Mem.tail _ (List.Mem.head _))))) (callWith_method1 ?_ starCall)
     refine spCall ?_
     refine methodCall_S rfl rfl rfl (wpAny_Constant_str ?_)
     intro pl
     refine GM.join ?_
     refine callWith_method1 ?_ starNm
     refine spNm (ld (S.tk (t := s.toks + 1)).F mo (spliced_none ?_))
     refine joinOut (l := (flushed (cfgOf n0) b2).out) S.tk (n := σ5.npl) (vs := σ5.out) (by rw [← epl5]; exact List.mem_append_left _ (by exact (List.Mem.tail _ (List.Mem.tail _ (List.Mem.tail _ (List.Mem.tail _ (List.Mem.tail _ (List.Mem.tail _ (List.Mem.tail _ (List.Mem.tail _ (List.Mem.head _))))))))))) hW5.out hjo (fun t1 s S => spliced_none ?_)
     rw [← hpe]
     subst er3
     have S : St B os G4 L' m4 ((pc, listOf pv.toArray n1) :: (wy, listOf wv.toArray n2) :: (hs, listOf hv.toArray n3) :: (it, oit') :: (T4 ++ fix2)) s := (S.drop (List.sublist_append_right _ _)).perm (permI [.inr _, .inl _, .inl _, .inl _, .inl _] _ [0, 1, 2, 3, 4] [2, 3, 4, 1, 0] rfl)
     refine appendL S Up.head (fun s S => ?_) (by lia)
     clear hW3 hW4 hW5 hway hst hso hfit hjo hpe mt mo epl epl5
     obtain ⟨e0, d0, oD0, n0', t0, t1', at0, hv0, he0, hrest0⟩ := id hev1
     have me0 : m4 (ofString "event") = some (.ref e0) := me.trans (congrArg some hv0)
     have he0' : (e0, listOf [Value.str ev.kind t0, .str ev.name t1', .ref d0].toArray n0') ∈ fix2 := he0
     have he1 : (e0, listOf [Value.str ev.kind t0, .str ev.name t1', .ref d0].toArray n0') ∈ (pc, listOf (pv ++ [Value.str p t1]).toArray (n1 + 1)) :: (wy, listOf wv.toArray n2) :: (hs, listOf hv.toArray n3) :: (it, oit') :: (T4 ++ fix2) := .tail _ (.tail _ (.tail _ (.tail _ (List.mem_append_right _ he0'))))
     have done : ∀ {wv2 wes2 hv2 hes2 n4 n5 s'}, EvsIn w fix2 wv2 wes2 → OutIs hv2 hes2 → Run2 (cfgOf n0) wes2 hes2 es2 ps2 → wes2.length ≤ wes.length + 1 → hes2.length ≤ hes.length + 1 → St B os G4 L' m4 ((pc, listOf (pv ++ [Value.str p t1]).toArray (n1 + 1)) :: (wy, listOf wv2.toArray n4) :: (hs, listOf hv2.toArray n5) :: (it, oit') :: (T4 ++ fix2)) s' →
      ∃ G'' m'' news'', JL w (cfgOf n0) fix2 na el wl pc wy hs ps rem m'' news'' ∧ St B os G'' L' m'' ((it, oit') :: news'') s' := by
      intro wv2 wes2 hv2 hes2 n4 n5 s' h1 h2 h3 h4 h5 S
      refine ⟨G4, m4, T4 ++ ((pc, listOf (pv ++ [Value.str p t1]).toArray (n1 + 1)) :: (wy, listOf wv2.toArray n4) :: (hs, listOf hv2.toArray n5) :: fix2), .mk hT4 h1 h2 (hpv.snoc p t1) hrem h3 (by rw [← hall]; simp) M (by lia) (by lia) (by simp; lia), S.perm (permI [.inl _, .inl _, .inl _, .inl _, .inr _] _ [0, 1, 2, 3, 4] [3, 4, 0, 1, 2] rfl)⟩
     refine wpAny_execs_cons (wpAny_If (wpAny_isTrue_Compare1 (Subscript_ (ld S.F me0 (cInt S (fun _ s S => itemL S (l := [.str ev.kind t0, .str ev.name t1', .ref d0]) he1 (by decide) rfl ?_))))))
     refine cStr S (fun _ s S => PySem.P.eq_str (wpAny_truthy_bool ?_))
     cases hrun' with
     | @st _ _ q a _ h tl _ _ _ hp2 hsp hr2 =>
      refine ifT (by rfl) ?_
      refine wpAny_execs_cons (wpAny_Expr_any ?_ (by rfl) (by rfl))
      refine methodCall_KW (ld S.F M.wy (appM S (List.Mem.tail _ (List.Mem.head _)) (callWith_method1 ?_ starNm)))
      refine spNm (ld S.F me (spliced_none ?_))
      refine appendL S (Up.tail Up.head) (fun s S => ?_) (by lia)
      refine wpAny_execs_cons (wpAny_Expr_any ?_ (by rfl) (by rfl))
      refine methodCall_KW (ld S.F M.hs (appM S (List.Mem.tail _ (List.Mem.tail _ (List.Mem.head _))) (callWith_method1 ?_ starSub)))
      refine spSub (Subscript_ ?_)
      refine methodCall_KW (midSubT (h := Subscript_ (ld S.F M.pc (minus1 S (fun _ s S => lastS S (List.Mem.head _) ⟨p, t1, G4, m4, _, rfl, hp2, by lia, S, fun t2 s S => ?_⟩)))))
      refine GM.split (callWith_method1 ?_ starCon)
      refine spCon (cStr S (fun _ s S => spliced_none ?_))
      refine splitS S (by decide) (by have : (midS p).length ≤ p.length := midS_len p; lia) (fun l al s hl S => ?_)
      rw [hsp] at hl
      cases l with
      | nil => simp at hl
      | cons z zr =>
      have hz : z.1 = h := by simpa using (List.cons.inj hl).1
      refine cInt S (fun _ s S => item0 S (l := strValues zr) (x := .str z.1 z.2) (List.Mem.head _) (spliced_none ?_))
      have S := S.drop (List.sublist_cons_self _ _)
      refine appendL S (Up.tail (Up.tail Up.head)) (fun s S => ?_) (by lia)
      rw [hz] at S
      refine wpAny_execs_nil (wpAny_execs_nil (hQ' _ _ ⟨rfl, done (hwv.snoc hev1) (hhv.snoc h z.2) hr2 (by simp) (by simp) S⟩))
     | @en way hs0 w0 h q _ _ _ _ hp2 hhl hr2 =>
      refine ifF (by rfl) ?_
      obtain ⟨wv', w0v, ewv, hwv', _⟩ := hwv.unsnoc
      obtain ⟨hv', th, ehv, hhv'⟩ := OutIs.unsnoc hhv
      simp only [List.length_append, List.length_cons, List.length_nil] at hz1 hz2 hwvl hhvl
      have hwl1 := congrArg List.length ewv
      have hhl1 := congrArg List.length ehv
      simp only [List.length_append, List.length_cons, List.length_nil] at hwl1 hhl1
      refine wpAny_execs_cons (wpAny_If (wpAny_isTrue_Compare1 (Subscript_ (ld S.F me0 (cInt S (fun _ s S => itemL S (l := [.str (ofString "end") t0, .str q t1', .ref d0]) he1 (by decide) rfl ?_))))))
      refine cStr S (fun _ s S => PySem.P.eq_str (wpAny_truthy_bool (ifT (by rfl) ?_)))
      refine wpAny_execs_cons (wpAny_Expr_any ?_ (by rfl) (by rfl))
      refine methodCall_KW (ld S.F M.wy (popM S (List.Mem.tail _ (List.Mem.head _)) (callWith_method0 ?_)))
      refine popE S ewv (Up.tail Up.head) (by lia) (fun s S => ?_)
      refine wpAny_execs_cons (wpAny_If (wpAny_isTrue_Compare1 (Subscript_ (ld S.F M.pc (minus1 S (fun _ s S => lastS S (List.Mem.head _) ?_))))))
      refine wpAny_BinOp (wpAny_BinOp (cStr S (fun _ s S => ?_)))
      refine methodCall_KW (ld S.F M.hs (popM S (List.Mem.tail _ (List.Mem.tail _ (List.Mem.head _))) (callWith_method0 ?_)))
      refine popE S ehv (Up.tail (Up.tail Up.head)) (by lia) (fun s S => ?_)
      refine PyProof.Rows.add_str (fun t5 tk => ?_) (by rw [PySem.sizeLine_eq]; have : (ofString "</").length = 2 := (by decide); lia)
      have S := S.tk (t := tk)
      refine cStr S (fun _ s S => PyProof.Rows.add_str (fun t6 tk => ?_) (by rw [PySem.sizeLine_eq, len_app]; have : (ofString "</").length = 2 := (by decide); have : (ofString ">").length = 1 := (by decide); lia))
      have S := S.tk (t := tk)
      refine PySem.P.ne_str (wpAny_truthy_bool (ifF (by rw [hp2]; simp) ?_))
      exact wpAny_execs_nil (wpAny_execs_nil (wpAny_execs_nil (wpAny_execs_nil (hQ' _ _ ⟨rfl, done hwv' hhv' hr2 (by simp; lia) (by simp; lia) S⟩))))
     | @tx _ _ y _ _ _ _ hr2 =>
      refine ifF (by rfl) ?_
      refine wpAny_execs_cons (wpAny_If (wpAny_isTrue_Compare1 (Subscript_ (ld S.F me0 (cInt S (fun _ s S => itemL S (l := [.str (ofString "text") t0, .str y t1', .ref d0]) he1 (by decide) rfl ?_))))))
      refine cStr S (fun _ s S => PySem.P.eq_str (wpAny_truthy_bool (ifF (by rfl) ?_)))
      exact wpAny_execs_nil (wpAny_execs_nil (wpAny_execs_nil (hQ' _ _ ⟨rfl, done hwv hhv hr2 (by lia) (by lia) S⟩)))
   · intro G' m' news' s hJ S
     cases hJ with
     | @mk T wv wes hv hes pv pes es' ps' n1 n2 n3 hT hwv hhv hpv hes' hrun' hall M hz1 hz2 hz3 =>
     cases hes'
     cases hrun'
     rw [List.append_nil] at hall
     subst hall
     show wpAny _ _ (execs _ _) _ _ _
     refine wpAny_execs_cons ?_
     refine wpAny_Return_some ?_
     refine wpAny_Compare1 ?_
     refine methodCall_S rfl rfl rfl (wpAny_Constant_str ?_)
     intro pl
     refine GM.join ?_
     refine callWith_method1 ?_ starNm
     refine spNm (ld (S.tk (t := s.toks + 1)).F M.wh (spliced_none ?_))
     refine joinOut S.tk (List.mem_append_right _ (.tail _ (.tail _ (.tail _ hwl)))) hwo hj1 (fun t1 s S => ?_)
     refine methodCall_S rfl rfl rfl (wpAny_Constant_str ?_)
     intro pl
     refine GM.join ?_
     refine callWith_method1 ?_ starNm
     refine spNm (ld (S.tk (t := s.toks + 1)).F M.pc (spliced_none ?_))
     refine joinOut S.tk (List.mem_append_right _ (.head _)) hpv hj2 (fun t2 s S => ?_)
     refine PySem.P.eq_str ?_
     rw [hj, beq_self_eq_true]
     exact k G' m' T _ _ hT S
end
end Mine
end
section
open PySem PySem.W PySem.Calls PyProof.Rows PySem.Builtin.Str
open PySem.Str (ofString)
namespace Mine
noncomputable abbrev lof (x : Str) : List Nat := x.cps.toList
theorem lof_inj {x y : Str} (h : lof x = lof y) : x = y := Str.ext' (Array.toList_inj.mp h)
theorem lof_app (x y : Str) : lof (x ++ y) = lof x ++ lof y := by
 show (x.cps ++ y.cps).toList = _
 rw [Array.toList_append]
theorem lof_len (x : Str) : (lof x).length = x.length := by simp [Str.length]
theorem lof_join : ∀ l : List Str, lof (Txt.join (ofString "") l) = (l.map lof).flatten := by
 intro l
 have h : ∀ l : List Str, lof (Str.join (ofString "") l) = (l.map lof).flatten := by
  intro l
  induction l with
  | nil => rfl
  | cons x r ih =>
   cases r with
   | nil =>
    show lof x = _
    simp
   | cons y r =>
    show lof (x ++ (ofString "") ++ Str.join (ofString "") (y :: r)) = _
    rw [lof_app, lof_app, ih]
    have : lof (ofString "") = [] := by decide
    rw [this]
    simp
 show lof (glued (ofString "") l) = _
 rw [StrLaws.glued_eq_join]
 exact h l
theorem split_head {x y : Str} {c : Nat} {A : List Nat} (hx : lof x = lof y ++ A) (hy : c ∉ lof y) (hA : A = [] ∨ ∃ r, A = c :: r) : ∃ tl, Txt.split x ⟨#[c]⟩ = y :: tl := by
 have free : A = [] → x = y := fun h => lof_inj (by rw [hx, h, List.append_nil])
 have hfree : (∀ i, ¬ StrLaws.At x ⟨#[c]⟩ x.length i) → A = [] := by
  intro hn
  rcases hA with h | ⟨r, h⟩
  · exact h
  · exfalso
    refine hn (lof y).length ((StrLaws.subAt_one x c (lof y).length).mpr ?_)
    show (lof x)[(lof y).length]? = some c
    rw [hx, h]
    simp
 unfold Txt.split
 by_cases h1 : (decide (x.length < (⟨#[c]⟩ : Str).length) || decide (strKind x < strKind ⟨#[c]⟩)) = true
 · rw [if_pos h1]
   have : A = [] := by
    rcases hA with h | ⟨r, h⟩
    · exact h
    · exfalso
      have hm : c ∈ lof x := by rw [hx, h]; simp
      exact StrLaws.split_free x c x (by unfold Txt.split; rw [if_pos h1]; exact List.mem_singleton.mpr rfl) hm
   exact ⟨[], by rw [free this]⟩
 · rw [if_neg h1]
   rcases StrLaws.occ_head x ⟨#[c]⟩ (x.length + 1) (by lia) with ⟨h0, hn⟩ | ⟨i, r, h0, hi, hn⟩
   · rw [h0, if_pos (show ([] : List Nat).isEmpty = true from rfl)]
     exact ⟨[], by rw [free (hfree hn)]⟩
   · rw [h0, if_neg (by simp), StrLaws.partsBetween_eq]
     refine ⟨StrLaws.partsFrom x 1 (i + 1) r, ?_⟩
     show strSub x 0 i :: _ = _
     refine congrArg (· :: _) (lof_inj ?_)
     show (strSub x 0 i).cps.toList = _
     rw [StrLaws.strSub_toList, List.drop_zero, Nat.sub_zero]
     have hc : (lof x)[i]? = some c := (StrLaws.subAt_one x c i).mp hi
     have hk : ∀ k, k < i → (lof x)[k]? ≠ some c := fun k hk e => hn k hk ((StrLaws.subAt_one x c k).mpr e)
     show (lof x).take i = lof y
     rw [hx] at hc hk ⊢
     have e : i = (lof y).length := by
      rcases Nat.lt_trichotomy i (lof y).length with h | h | h
      · rw [List.getElem?_append_left h] at hc
        exact absurd (List.mem_of_getElem? hc) hy
      · exact h
      · exfalso
        rcases hA with h2 | ⟨r2, h2⟩
        · subst h2
          rw [List.append_nil] at hc
          exact hy (List.mem_of_getElem? hc)
        · refine hk _ h ?_
          rw [h2]
          simp
     rw [e]
     simp
theorem esc_len {x : Str} (hx : x.length ≤ 190) : (escT x).length ≤ 172000 := by
 have l1 : (ofString "&amp;").length ≤ 5 := by decide
 have l2 : (ofString "&lt;").length ≤ 4 := by decide
 have l3 : (ofString "&gt;").length ≤ 4 := by decide
 have l6 : (ofString "&#xD;").length ≤ 5 := by decide
 have h1 := esc1_length (c := (ofString "&")) hx l1
 have h2 := esc1_length (c := (ofString "<")) h1 l2
 have h3 := esc1_length (c := (ofString ">")) h2 l3
 have h6 := esc1_length (c := (ofString "\r")) h3 l6
 unfold escT
 lia
noncomputable abbrev xns : Str := (ofString "http://www.w3.org/XML/1998/namespace")
noncomputable def pm4 : Lvl := [((ofString ""), (ofString "n0")), ((ofString "u"), (ofString "n1")), ((ofString "v"), (ofString "n2")), ((ofString "w"), (ofString "n3"))]
noncomputable def told3 : Lvl := [((ofString "u"), (ofString "p")), ((ofString "v"), (ofString "q")), ((ofString "w"), (ofString "r"))]
noncomputable def tblR (rw : Bool) : Lvl := (xns, (ofString "xml")) :: (if rw = true then pm4 else told3)
noncomputable abbrev domU : List Str := [(ofString ""), (ofString "u"), (ofString "v"), (ofString "w"), xns]
noncomputable def pOf (rw : Bool) (u : Str) : Str := (firstP u (tblR rw)).getD (ofString "")
noncomputable def yN (rw : Bool) (n : Str) : Str := if (cutN n).1 = (ofString "") ∧ rw = false then (cutN n).2 else colon (pOf rw (cutN n).1) (cutN n).2
noncomputable abbrev urs (l : Lvl) : List Str := l.map (·.1)
theorem tbl_nd1 (rw : Bool) : (urs (tblR rw)).Nodup := by cases rw <;> decide
theorem tbl_nd2 (rw : Bool) : ((tblR rw).map (·.2)).Nodup := by cases rw <;> decide
theorem nodup_at {α β : Type} {f : α → β} : ∀ {l : List α}, (l.map f).Nodup → ∀ {a b : α}, a ∈ l → b ∈ l → f a = f b → a = b
 | x :: r, h, a, b, ha, hb, e => by
  rw [List.map_cons, List.nodup_cons] at h
  rcases List.mem_cons.mp ha with e1 | ha
  · rcases List.mem_cons.mp hb with e2 | hb
    · rw [e1, e2]
    · exfalso
      refine h.1 ?_
      rw [← e1, e]
      exact List.mem_map_of_mem (f := f) hb
  · rcases List.mem_cons.mp hb with e2 | hb
    · exfalso
      refine h.1 ?_
      rw [← e2, ← e]
      exact List.mem_map_of_mem (f := f) ha
    · exact nodup_at h.2 ha hb e
theorem nodup_le {α : Type} [DecidableEq α] : ∀ {l t : List α}, l.Nodup → (∀ x ∈ l, x ∈ t) → l.length ≤ t.length
 | [], _, _, _ => Nat.zero_le _
 | x :: r, t, h, hs => by
  rw [List.nodup_cons] at h
  have hx : x ∈ t := hs x (List.mem_cons_self ..)
  have := nodup_le (l := r) (t := t.erase x) h.2 fun y hy => by
   have hne : y ≠ x := fun e => h.1 (by rw [← e]; exact hy)
   exact (List.mem_erase_of_ne hne).mpr (hs y (List.mem_cons_of_mem _ hy))
  rw [List.length_erase_of_mem hx] at this
  have := List.length_pos_of_mem hx
  simp only [List.length_cons]
  lia
theorem findP_tbl {tb : Lvl} (hp : (tb.map (·.2)).Nodup) {uri : Str} : ∀ {l : Lvl} {T : Str → Bool}, (∀ p ∈ l, p ∈ tb) → (∀ p ∈ tb, T p.2 = true → p.1 ≠ uri) → findP uri l T = firstP uri l
 | [], _, _, _ => rfl
 | (u, p) :: r, T, hl, hT => by
  have hm : (u, p) ∈ tb := hl _ (List.mem_cons_self ..)
  by_cases e : u = uri
  · have : T p = false := by
     cases q : T p with
     | false => rfl
     | true => exact absurd e (hT _ hm q)
    rw [findP, if_pos ⟨e, this⟩, firstP, if_pos e]
  · rw [findP, if_neg (fun h => e h.1), firstP, if_neg e]
    refine findP_tbl hp (fun p hp' => hl p (List.mem_cons_of_mem _ hp')) fun q hq h => ?_
    rcases Bool.or_eq_true_iff.mp h with h | h
    · exact hT q hq h
    · have := nodup_at hp hq hm (of_decide_eq_true h)
      rw [this]; exact e
theorem firstP_none {uri : Str} : ∀ {l : Lvl}, uri ∉ urs l → firstP uri l = none
 | [], _ => rfl
 | (u, p) :: r, h => by
  rw [firstP, if_neg (fun e => h (by rw [← e]; exact List.mem_cons_self ..))]
  exact firstP_none fun hm => h (List.mem_cons_of_mem _ hm)
theorem firstP_in {uri p : Str} : ∀ {l : Lvl}, (urs l).Nodup → (uri, p) ∈ l → firstP uri l = some p
 | (u, q) :: r, h, hm => by
  have h := List.nodup_cons.mp (show (u :: urs r).Nodup from h)
  rcases List.mem_cons.mp hm with e | hm
  · cases e
    rw [firstP, if_pos rfl]
  · rw [firstP, if_neg (fun e => h.1 (by show u ∈ _; rw [e]; exact List.mem_map_of_mem (f := (·.1)) hm))]
    exact firstP_in h.2 hm
theorem firstP_sub {uri p : Str} {l : Lvl} : firstP uri l = some p → (uri, p) ∈ l := by
 induction l with
 | nil => intro h; cases h
 | cons a r ih =>
  obtain ⟨u, q⟩ := a
  intro h
  rw [firstP] at h
  split at h
  · rename_i e
    cases h
    rw [e]; exact List.mem_cons_self ..
  · exact List.mem_cons_of_mem _ (ih h)
theorem firstP_some {uri : Str} {l : Lvl} (h : uri ∈ urs l) : ∃ p, firstP uri l = some p ∧ (uri, p) ∈ l := by
 cases q : firstP uri l with
 | some p => exact ⟨p, rfl, firstP_sub q⟩
 | none =>
  induction l with
  | nil => cases h
  | cons a r ih =>
   obtain ⟨u, p⟩ := a
   rw [firstP] at q
   split at q
   · cases q
   · rename_i e
     rcases List.mem_cons.mp (show uri ∈ u :: urs r from h) with h | h
     · exact absurd h.symm e
     · obtain ⟨p', e1, _⟩ := ih h q
       first | (cases e1; done) | (rw [q] at e1; cases e1)
theorem find_decl {rw : Bool} {l : Lvl} {u : Str} (hl : ∀ p ∈ l, p ∈ tblR rw) (hu : u ∈ urs l) : findP u l (fun _ => false) = some (pOf rw u) := by
 rw [findP_tbl (tbl_nd2 rw) hl (fun _ _ h => by cases h)]
 obtain ⟨p, e, hm⟩ := firstP_some hu
 rw [e, pOf, firstP_in (tbl_nd1 rw) (hl _ hm)]; rfl
theorem find_undecl {rw : Bool} {l : Lvl} {u : Str} (hl : ∀ p ∈ l, p ∈ tblR rw) (hu : u ∉ urs l) : findP u l (fun _ => false) = none := by
 rw [findP_tbl (tbl_nd2 rw) hl (fun _ _ h => by cases h), firstP_none hu]
theorem outsA_app (a b : List Lvl) : outsA (a ++ b) = outsA b ++ outsA a := by simp [outsA]
theorem outsA_one (l : Lvl) : outsA [l] = l := by simp [outsA]
theorem outsA_rep (j : Nat) : outsA (List.replicate j []) = [] := by simp [outsA]
theorem mem_outsA {p : Str × Str} {v : List Lvl} : p ∈ outsA v ↔ ∃ l ∈ v, p ∈ l := by simp [outsA]
theorem len_outsA {l : Lvl} {v : List Lvl} (h : l ∈ v) : l.length ≤ (outsA v).length := by
 obtain ⟨a, b, rfl⟩ := List.append_of_mem h
 rw [show a ++ l :: b = a ++ ([l] ++ b) by simp, outsA_app, outsA_app, outsA_one]
 simp
 lia
noncomputable def nss0 (rw : Bool) : List Lvl := (if rw = true then [] else [nsMapL]) ++ [[((ofString "u"), (ofString "p")), ((ofString "u"), (ofString "b")), ((ofString "v"), (ofString "q")), ((ofString "w"), (ofString "r"))]]
theorem tgt_is (rw sp : Bool) : tgt ⟨rw, sp, false, false⟩ = ⟨[], [], [[(xns, (ofString "xml"))]], nss0 rw, [], [false], false, false, 0⟩ := by cases rw <;> rfl
structure Inv2 (c : Cfg) (k : Nat) (b : Ab) : Prop where
 k4 : k ≤ 4
 pm : b.pmap = if c.rw = true then pm4.take k else []
 sub : ∀ p ∈ outsA b.dec, p ∈ tblR c.rw
 nd : (urs (outsA b.dec)).Nodup
 xml : xns ∈ urs (outsA b.dec)
 dn : b.dec ≠ []
 nss : ∃ j, b.nss = nss0 c.rw ++ List.replicate j []
 kd : c.rw = true → ∀ u ∈ urs (outsA b.dec), u = xns ∨ u ∈ urs (pm4.take k)
theorem Inv2.dz {c : Cfg} {k : Nat} {b : Ab} (h : Inv2 c k b) : (outsA b.dec).length ≤ 5 := by
 have := nodup_le h.nd (t := urs (tblR c.rw)) fun x hx => by
  obtain ⟨p, hp, rfl⟩ := List.mem_map.mp hx
  exact List.mem_map_of_mem (f := (·.1)) (h.sub p hp)
 rw [List.length_map, List.length_map] at this
 have e : (tblR c.rw).length ≤ 5 := by cases c.rw <;> decide
 lia
theorem tbl_ok (rw : Bool) : PrOk (tblR rw) := by
 cases rw <;> (unfold PrOk; decide)
theorem nss0_ok (rw : Bool) : PrOk (outsA (nss0 rw)) ∧ ∀ v ∈ nss0 rw, v.length < 900 := by
 cases rw <;> exact ⟨by unfold PrOk; decide, by decide⟩
theorem pm4_ok : PrOkS (pm4.map (·.2)) := by unfold PrOkS; decide
theorem Inv2.sane {c : Cfg} {k : Nat} {b : Ab} (h : Inv2 c k b) : Sane b := by
 obtain ⟨j, hj⟩ := h.nss
 have hd := h.dz
 refine ⟨by lia, fun v hv => by have := len_outsA hv; lia, fun v hv => ?_, fun p hp => tbl_ok c.rw p (h.sub p hp), ?_, h.dn, ?_, ?_⟩
 · rw [hj] at hv
   rcases List.mem_append.mp hv with hv | hv
   · exact (nss0_ok c.rw).2 v hv
   · rw [(List.mem_replicate.mp hv).2]; decide
 · rw [hj, outsA_app, outsA_rep, List.nil_append]
   exact (nss0_ok c.rw).1
 · rw [h.pm]
   split
   · intro p hp
     rw [List.map_take] at hp
     exact pm4_ok p (List.mem_of_mem_take hp)
   · intro p hp; cases hp
 · rw [h.pm]
   split
   · have := List.length_take_le k pm4
     have e : pm4.length = 4 := rfl
     simp
     lia
   · decide
noncomputable def yU (rw : Bool) (u t : Str) : Str := if u = (ofString "") ∧ rw = false then t else colon (pOf rw u) t
theorem outsA_add {D : List Lvl} {l : Lvl} {x : Str × Str} : outsA (addLast (D ++ [l]) x) = l ++ [x] ++ outsA D := by
 rw [addLast_snoc, outsA_app, outsA_one]
theorem dec_snoc {v : List Lvl} (h : v ≠ []) : ∃ D l, v = D ++ [l] := by
 rcases List.eq_nil_or_concat v with e | ⟨D, l, e⟩
 · exact absurd e h
 · exact ⟨D, l, by rw [e, List.concat_eq_append]⟩
noncomputable def nxt (rw : Bool) (k' : Nat) (b : Ab) (u : Str) : Ab := { b with dec := if u ∈ urs (outsA b.dec) ∨ (u = (ofString "") ∧ rw = false) then b.dec else addLast b.dec (u, pOf rw u), pmap := if rw = true then pm4.take k' else [] }
noncomputable def nextK (rw : Bool) (k : Nat) (u : Str) : Nat := if rw = true then (if u = xns ∨ u ∈ urs (pm4.take k) then k else k + 1) else k
theorem Inv2.add {c : Cfg} {k k' : Nat} {b : Ab} {u p : Str} (h : Inv2 c k b) (hu : u ∉ urs (outsA b.dec)) (hm : (u, p) ∈ tblR c.rw) (hk : k' ≤ 4) (hle : k ≤ k') (hku : c.rw = true → u ∈ urs (pm4.take k')) :
 Inv2 c k' { b with dec := addLast b.dec (u, p), pmap := if c.rw = true then pm4.take k' else [] } := by
 obtain ⟨D, l, e⟩ := dec_snoc h.dn
 have e1 : outsA b.dec = l ++ outsA D := by rw [e, outsA_app, outsA_one]
 have e2 : outsA (addLast b.dec (u, p)) = l ++ [(u, p)] ++ outsA D := by rw [e, outsA_add]
 have hp : (outsA (addLast b.dec (u, p))).Perm ((u, p) :: outsA b.dec) := by
  rw [e1, e2, List.append_assoc]
  exact List.perm_middle
 have hmem : ∀ q, q ∈ outsA (addLast b.dec (u, p)) ↔ q = (u, p) ∨ q ∈ outsA b.dec := fun q => by rw [hp.mem_iff, List.mem_cons]
 refine ⟨hk, rfl, fun q hq => ?_, ?_, ?_, ?_, h.nss, fun hr x hx => ?_⟩
 · rcases (hmem q).mp hq with rfl | hq
   · exact hm
   · exact h.sub q hq
 · refine ((hp.map (·.1)).nodup_iff).mpr ?_
   exact List.nodup_cons.mpr ⟨hu, h.nd⟩
 · exact ((hp.map (·.1)).mem_iff).mpr (List.mem_cons_of_mem _ h.xml)
 · rw [e, addLast_snoc]; simp
 · rcases List.mem_cons.mp (((hp.map (·.1)).mem_iff).mp hx) with rfl | hx
   · exact .inr (hku hr)
   · refine (h.kd hr x hx).imp id fun hx => ?_
     obtain ⟨q, hq, rfl⟩ := List.mem_map.mp hx
     have := (List.take_sublist_take_left hle (l := pm4)).subset hq
     exact List.mem_map_of_mem (f := Prod.fst) this
theorem pm4_tbl : ∀ p ∈ pm4, p ∈ tblR true := by decide
theorem nss0_find (u : Str) (h : u ∈ [(ofString "u"), (ofString "v"), (ofString "w")]) : firstP u (outsA (nss0 false)) = some (pOf false u) ∧ (u, pOf false u) ∈ tblR false := by
 simp only [List.mem_cons, List.not_mem_nil, or_false] at h
 rcases h with rfl | rfl | rfl <;> decide
theorem qn2 {c : Cfg} {k : Nat} {b : Ab} {u t : Str} (h : Inv2 c k b) (hu : u ∈ domU) (hk : c.rw = true → u = xns ∨ u ∈ urs (pm4.take k) ∨ (pm4[k]?).map (·.1) = some u) :
 qnA c b u t = some (yU c.rw u t, nxt c.rw (nextK c.rw k u) b u) ∧ Inv2 c (nextK c.rw k u) (nxt c.rw (nextK c.rw k u) b u) := by
 by_cases hd : u ∈ urs (outsA b.dec)
 · have ek : nextK c.rw k u = k := by
    unfold nextK
    split
    · rename_i hr
      rw [if_pos (h.kd hr u hd)]
    · rfl
   have eb : nxt c.rw k b u = b := by
    unfold nxt
    rw [if_pos (.inl hd), ← h.pm]
   rw [ek, eb]
   refine ⟨?_, h⟩
   unfold qnA
   rw [find_decl h.sub hd]
   show some (colon _ _, b) = _
   rw [yU, if_neg]
   rintro ⟨rfl, hr⟩
   obtain ⟨p, hp, e⟩ := List.mem_map.mp hd
   have := h.sub p hp
   rw [hr] at this
   have h2 : ∀ p ∈ tblR false, p.1 ≠ (ofString "") := by decide
   exact h2 p this e
 · have hx : u ≠ xns := fun e => hd (e ▸ h.xml)
   cases hr : c.rw with
   | true =>
    have hk' := (hk hr).resolve_left hx
    unfold qnA
    rw [find_undecl h.sub hd]
    show (if c.rw = true then _ else _) = _ ∧ _
    rw [if_pos hr, h.pm, if_pos hr]
    have ny : ∀ t, yU true u t = colon (pOf true u) t := fun t => by rw [yU, if_neg (by rintro ⟨_, h⟩; cases h)]
    have nn : ∀ k', nxt true k' b u = { b with dec := addLast b.dec (u, pOf true u), pmap := pm4.take k' } := fun k' => by
     unfold nxt
     rw [if_neg (by rintro (h | ⟨_, h⟩); exact hd h; cases h), if_pos rfl]
    by_cases h1 : u ∈ urs (pm4.take k)
    · obtain ⟨p, e, hm⟩ := firstP_some h1
      have hm4 : (u, p) ∈ pm4 := List.mem_of_mem_take hm
      have ep : pOf true u = p := by rw [pOf, firstP_in (tbl_nd1 true) (pm4_tbl _ hm4)]; rfl
      have ek : nextK true k u = k := by rw [nextK, if_pos rfl, if_pos (.inr h1)]
      rw [e, ek, ny, nn, ep]
      refine ⟨?_, ?_⟩
      · rfl
      · have := h.add (k' := k) (p := p) hd (by rw [hr]; exact pm4_tbl _ hm4) h.k4 (Nat.le_refl _) (fun _ => h1)
        rw [if_pos hr] at this
        exact this
    · have h2 := hk'.resolve_left h1
      have ek : nextK true k u = k + 1 := by rw [nextK, if_pos rfl, if_neg (fun h => h.elim hx h1)]
      rw [firstP_none h1, ek, ny, nn]
      have hk3 : k < 4 := by
       rcases Nat.lt_or_ge k 4 with h | h
       · exact h
       · rw [List.getElem?_eq_none (by exact h)] at h2
         cases h2
      have hpl : b.pmap.length = k := by
       rw [h.pm, if_pos hr]
       have : pm4.length = 4 := rfl
       simp
       lia
      have key : nPre b = pOf true u ∧ (u, pOf true u) ∈ pm4 ∧ pm4.take k ++ [(u, pOf true u)] = pm4.take (k + 1) ∧ u ∈ urs (pm4.take (k + 1)) := by
       have e0 : nPre b = Str.empty ++ (ofString "n") ++ Str.ofString (toString ((k : Nat) : Int)) := by unfold nPre; rw [hpl]
       rw [e0]
       match k, hk3, h2 with
       | 0, _, h2 => cases h2; decide
       | 1, _, h2 => cases h2; decide
       | 2, _, h2 => cases h2; decide
       | 3, _, h2 => cases h2; decide
      obtain ⟨k1, k2, k3, k5⟩ := key
      refine ⟨?_, ?_⟩
      · show some (_, _) = _
        rw [k1, k3]
      · have := h.add (k' := k + 1) (p := pOf true u) hd (by rw [hr]; exact pm4_tbl _ k2) hk3 (by lia) (fun _ => k5)
        rw [if_pos hr] at this
        exact this
   | false =>
    have ek : nextK false k u = k := by rw [nextK, if_neg (by decide)]
    have epm : b.pmap = [] := by rw [h.pm, if_neg (by rw [hr]; decide)]
    unfold qnA
    rw [find_undecl h.sub hd, ek]
    show (if c.rw = true then _ else _) = _ ∧ _
    rw [if_neg (by rw [hr]; decide)]
    by_cases h0 : u = (ofString "")
    · rw [if_pos h0, yU, if_pos ⟨h0, rfl⟩]
      have eb : nxt false k b u = b := by
       unfold nxt
       rw [if_pos (.inr ⟨h0, rfl⟩), if_neg (by decide), ← epm]
      rw [eb]
      exact ⟨rfl, h⟩
    · rw [if_neg h0, yU, if_neg (fun h => h0 h.1)]
      have hu3 : u ∈ [(ofString "u"), (ofString "v"), (ofString "w")] := by
       simp only [List.mem_cons, List.not_mem_nil, or_false] at hu ⊢
       rcases hu with h | h | h | h | h
       · exact absurd h h0
       · exact .inl h
       · exact .inr (.inl h)
       · exact .inr (.inr h)
       · exact absurd h hx
      obtain ⟨f1, f2⟩ := nss0_find u hu3
      obtain ⟨j, hj⟩ := h.nss
      rw [hj, outsA_app, outsA_rep, List.nil_append, hr, f1]
      have eb : nxt false k b u = { b with dec := addLast b.dec (u, pOf false u), pmap := [] } := by
       unfold nxt
       rw [if_neg (by rintro (h | ⟨h, _⟩); exact hd h; exact h0 h), if_neg (by decide)]
      rw [eb]
      refine ⟨?_, ?_⟩
      · show some (_, _) = some (_, _)
        rw [epm, hj, hr]
      · have := h.add (k' := k) (p := pOf false u) hd (by rw [hr]; exact f2) h.k4 (Nat.le_refl _) (fun h => by rw [hr] at h; cases h)
        rw [if_neg (by rw [hr]; decide)] at this
        exact this
noncomputable def addU (rw : Bool) : List Str → List Str → Lvl
 | _, [] => []
 | hv, n :: r => if (cutN n).1 ∈ hv ∨ ((cutN n).1 = (ofString "") ∧ rw = false) then addU rw hv r else ((cutN n).1, pOf rw (cutN n).1) :: addU rw ((cutN n).1 :: hv) r
noncomputable def kOf (rw : Bool) : Nat → List Str → Option Nat
 | k, [] => some k
 | k, n :: r => if rw = true ∧ ¬ ((cutN n).1 = xns ∨ (cutN n).1 ∈ urs (pm4.take k)) ∧ (pm4[k]?).map (·.1) ≠ some (cutN n).1 then none else kOf rw (nextK rw k (cutN n).1) r
theorem Ab.put_same {b : Ab} {d : List Lvl} {p : List (Str × Str)} (h1 : d = b.dec) (h2 : p = b.pmap) : { b with dec := d, pmap := p } = b := by subst h1; subst h2; rfl
theorem parse2 {c : Cfg} {k' : Nat} {D : List Lvl} : ∀ {names : List Str} {k : Nat} {b : Ab} {cur : Lvl} {hv : List Str}, Inv2 c k b → b.dec = D ++ [cur] → (∀ x, x ∈ hv ↔ x ∈ urs (outsA b.dec)) → (∀ n ∈ names, NameOk n ∧ (cutN n).1 ∈ domU) → kOf c.rw k names = some k' →
 ∃ b', parseA c b names = some (names.map (fun n => (n, yN c.rw n)), b') ∧ PSane c b names ∧ Inv2 c k' b' ∧ b' = { b with dec := D ++ [cur ++ addU c.rw hv names], pmap := if c.rw = true then pm4.take k' else [] }
 | [], k, b, cur, hv, hI, hd, hh, hn, hk => by
  cases hk
  refine ⟨b, rfl, hI.sane, hI, (Ab.put_same ?_ hI.pm.symm).symm⟩
  rw [hd]
  show _ = D ++ [cur]
  rw [addU, List.append_nil]
 | n :: r, k, b, cur, hv, hI, hd, hh, hn, hk => by
  obtain ⟨hnm, hdm⟩ := hn n (List.mem_cons_self ..)
  rw [kOf] at hk
  split at hk
  · cases hk
  · rename_i hc
    have hq : c.rw = true → (cutN n).1 = xns ∨ (cutN n).1 ∈ urs (pm4.take k) ∨ (pm4[k]?).map (·.1) = some (cutN n).1 := fun hr => by
     by_cases h1 : (cutN n).1 = xns ∨ (cutN n).1 ∈ urs (pm4.take k)
     · exact h1.imp id .inl
     · by_cases h2 : (pm4[k]?).map (·.1) = some (cutN n).1
       · exact .inr (.inr h2)
       · exact absurd ⟨hr, h1, h2⟩ hc
    obtain ⟨e1, hI2⟩ := qn2 (t := (cutN n).2) hI hdm hq
    by_cases hcond : (cutN n).1 ∈ hv ∨ ((cutN n).1 = (ofString "") ∧ c.rw = false)
    · have hcond2 : (cutN n).1 ∈ urs (outsA b.dec) ∨ ((cutN n).1 = (ofString "") ∧ c.rw = false) := hcond.imp (hh _).mp id
      have ed : (nxt c.rw (nextK c.rw k (cutN n).1) b (cutN n).1).dec = b.dec := by
       unfold nxt
       show (if _ then _ else _) = _
       rw [if_pos hcond2]
      obtain ⟨b', p1, p2, p3, p4⟩ := parse2 (names := r) (D := D) (cur := cur) (hv := hv) hI2 (ed.trans hd) (fun x => by rw [ed]; exact hh x) (fun m hm => hn m (List.mem_cons_of_mem _ hm)) hk
      refine ⟨b', ?_, ⟨hI.sane, hnm, _, _, e1, p2⟩, p3, ?_⟩
      · rw [parseA_cons e1, p1]; rfl
      · rw [p4, addU, if_pos hcond]; rfl
    · have hcond2 : ¬ ((cutN n).1 ∈ urs (outsA b.dec) ∨ ((cutN n).1 = (ofString "") ∧ c.rw = false)) := fun h => hcond (h.imp (hh _).mpr id)
      have ed : (nxt c.rw (nextK c.rw k (cutN n).1) b (cutN n).1).dec = D ++ [cur ++ [((cutN n).1, pOf c.rw (cutN n).1)]] := by
       unfold nxt
       show (if _ then _ else _) = _
       rw [if_neg hcond2, hd, addLast_snoc]
      obtain ⟨b', p1, p2, p3, p4⟩ := parse2 (names := r) (D := D) (cur := cur ++ [((cutN n).1, pOf c.rw (cutN n).1)]) (hv := (cutN n).1 :: hv) hI2 ed (fun x => by
       rw [ed, outsA_app, outsA_one, List.mem_cons, hh x, hd, outsA_app, outsA_one]
       simp only [urs, List.map_append, List.map_cons, List.map_nil, List.mem_append, List.mem_singleton]
       constructor
       · rintro (h | h | h)
         · exact .inl (.inr h)
         · exact .inl (.inl h)
         · exact .inr h
       · rintro ((h | h) | h)
         · exact .inr (.inl h)
         · exact .inl h
         · exact .inr (.inr h)) (fun m hm => hn m (List.mem_cons_of_mem _ hm)) hk
      refine ⟨b', ?_, ⟨hI.sane, hnm, _, _, e1, p2⟩, p3, ?_⟩
      · rw [parseA_cons e1, p1]; rfl
      · rw [p4, addU, if_neg hcond]
        unfold nxt
        simp
theorem addU_mem {rw : Bool} : ∀ {names hv : List Str} {p : Str × Str}, p ∈ addU rw hv names → p.1 ∉ hv ∧ p.2 = pOf rw p.1 ∧ ∃ n ∈ names, (cutN n).1 = p.1
 | n :: r, hv, p, h => by
  rw [addU] at h
  split at h
  · obtain ⟨h1, h2, m, hm, h3⟩ := addU_mem h
    exact ⟨h1, h2, m, List.mem_cons_of_mem _ hm, h3⟩
  · rename_i hc
    rcases List.mem_cons.mp h with rfl | h
    · exact ⟨fun h => hc (.inl h), rfl, n, List.mem_cons_self .., rfl⟩
    · obtain ⟨h1, h2, m, hm, h3⟩ := addU_mem h
      exact ⟨fun h => h1 (List.mem_cons_of_mem _ h), h2, m, List.mem_cons_of_mem _ hm, h3⟩
theorem kOf_false {k : Nat} : ∀ {names : List Str}, kOf false k names = some k
 | [] => rfl
 | n :: r => by
  rw [kOf, if_neg (by rintro ⟨h, _⟩; cases h)]
  exact kOf_false
theorem kOf_four : ∀ {names : List Str}, (∀ n ∈ names, (cutN n).1 ∈ domU) → kOf true 4 names = some 4
 | [], _ => rfl
 | n :: r, h => by
  have h1 : (cutN n).1 = xns ∨ (cutN n).1 ∈ urs (pm4.take 4) := by
   have := h n (List.mem_cons_self ..)
   simp only [List.mem_cons, List.not_mem_nil, or_false] at this
   rcases this with e | e | e | e | e
   · rw [e]; exact .inr (by decide)
   · rw [e]; exact .inr (by decide)
   · rw [e]; exact .inr (by decide)
   · rw [e]; exact .inr (by decide)
   · exact .inl e
  rw [kOf, if_neg (fun hc => hc.2.1 h1), nextK, if_pos rfl, if_pos h1]
  exact kOf_four fun m hm => h m (List.mem_cons_of_mem _ hm)
theorem firstP_map {f : Str → Str} {n : Str} : ∀ {l : List Str}, n ∈ l → firstP n (l.map fun m => (m, f m)) = some (f n)
 | m :: r, h => by
  rw [List.map_cons, firstP]
  by_cases e : m = n
  · rw [if_pos e, e]
  · rw [if_neg e]
    exact firstP_map ((List.mem_cons.mp h).resolve_left (Ne.symm e))
structure NamesOk (q : Str) (a : List (Str × Str)) : Prop where
 nk : ((q :: a.map (·.1)).map nkey).Nodup
 nd : (q :: a.map (·.1)).Nodup
 al : a.length ≤ 6
 dom : ∀ n ∈ q :: a.map (·.1), NameOk n ∧ (cutN n).1 ∈ domU ∧ n.length ≤ 100 ∧ (cutN n).2.length ≤ 100
 val : ∀ p ∈ a, p.2.length ≤ 20 ∧ (escA p.2).length ≤ 60
 yl : ∀ rw : Bool, ∀ n ∈ q :: a.map (·.1), (yN rw n).length ≤ 100
noncomputable abbrev srt (q : Str) (a : List (Str × Str)) : List Str := lsort nkey (q :: a.map (·.1))
theorem srt_mem {q : Str} {a : List (Str × Str)} {n : Str} : n ∈ srt q a ↔ n ∈ q :: a.map (·.1) := (lsort_perm _).mem_iff
noncomputable def stB (c : Cfg) (k' : Nat) (b : Ab) (q : Str) (a : List (Str × Str)) : Ab :=
 { b with data := [], out := b.out ++ flOut c.st (lastP b) b.data ++ openA (yN c.rw q) (declA (addU c.rw (urs (outsA b.dec)) (srt q a)) ++ attrA ((srt q a).map fun n => (n, yN c.rw n)) a), dec := b.dec ++ [addU c.rw (urs (outsA b.dec)) (srt q a)], pmap := if c.rw = true then pm4.take k' else [], pres := b.pres ++ [keepsA (lastP b) a], seen := true, nss := b.nss ++ [[]] }
theorem Inv2.opened {c : Cfg} {k : Nat} {b : Ab} (h : Inv2 c k b) : Inv2 c k (opened c b) := by
 have e : outsA (Mine.opened c b).dec = outsA b.dec := by
  show outsA (b.dec ++ [[]]) = _
  rw [outsA_app, outsA_one]; rfl
 exact ⟨h.k4, h.pm, by rw [e]; exact h.sub, by rw [e]; exact h.nd, by rw [e]; exact h.xml, by show b.dec ++ [[]] ≠ []; simp, h.nss, by rw [e]; exact h.kd⟩
theorem start2 {c : Cfg} {k k' : Nat} {b : Ab} {q : Str} {a : List (Str × Str)} (hI : Inv2 c k b) (hN : NamesOk q a) (hk : kOf c.rw k (srt q a) = some k') (hF : Fit b) (ho : b.out.length < 8900) (hp : b.pres.length < 900) (hn : b.nss.length < 900) (hd : b.dec.length < 900) :
 startA c b q a = some (stB c k' b q a) ∧ StartOk c b q a ∧ Inv2 c k' (stB c k' b q a) := by
 have eo : outsA (opened c b).dec = outsA b.dec := by
  show outsA (b.dec ++ [[]]) = _
  rw [outsA_app, outsA_one]; rfl
 obtain ⟨b', p1, p2, p3, p4⟩ := parse2 (c := c) (k' := k') (D := b.dec) (names := srt q a) (cur := []) (hv := urs (outsA b.dec)) hI.opened rfl (fun x => by rw [eo]) (fun n hm => ⟨(hN.dom n (srt_mem.mp hm)).1, (hN.dom n (srt_mem.mp hm)).2.1⟩) hk
 rw [List.nil_append] at p4
 have hlast : b'.dec.getLastD [] = addU c.rw (urs (outsA b.dec)) (srt q a) := by rw [p4]; simp
 have es : startA c b q a = some (stB c k' b q a) := by
  unfold startA startInA
  rw [p1]
  rw [Option.map_some]
  dsimp only
  rw [hlast, firstP_map (srt_mem.mpr (List.mem_cons_self ..)), p4]
  rfl
 refine ⟨es, ⟨hF, p2, hN.nk, hN.nd, hN.al, fun n hn => by have := (hN.dom n hn).2.2.1; lia, ?_, fun p hp => (hN.val p hp).1, ho, hp, hn, hd⟩, ?_⟩
 · intro z b1 hz
   rw [p1] at hz
   cases hz
   rw [hlast]
   have hsub : ∀ p ∈ addU c.rw (urs (outsA b.dec)) (srt q a), p ∈ outsA b'.dec := fun p hp => mem_outsA.mpr ⟨_, by rw [p4]; simp, hp⟩
   have hl : addU c.rw (urs (outsA b.dec)) (srt q a) ∈ b'.dec := by rw [p4]; simp
   refine ⟨?_, by have := len_outsA hl; have := p3.dz; lia, fun p hp => ?_⟩
   · have h1 := p3.nd
     rw [p4] at h1
     have h2 : (addU c.rw (urs (outsA b.dec)) (srt q a) ++ outsA b.dec).map (·.1) = urs (outsA (b.dec ++ [addU c.rw (urs (outsA b.dec)) (srt q a)])) := by rw [outsA_app, outsA_one]
     rw [← h2, List.map_append] at h1
     exact List.Pairwise.of_map (fun x => x.1) (fun a b h e => h (congrArg Prod.fst e)) (List.nodup_append.mp h1).1
   · obtain ⟨h1, _, n, hn, h3⟩ := addU_mem hp
     have h4 := (hN.dom n (srt_mem.mp hn)).2.1
     rw [h3] at h4
     have h5 : p.1 ≠ xns := fun e => h1 (e ▸ hI.xml)
     simp only [List.mem_cons, List.not_mem_nil, or_false] at h4
     rcases h4 with e | e | e | e | e
     · rw [e]; decide
     · rw [e]; decide
     · rw [e]; decide
     · rw [e]; decide
     · exact absurd e h5
 · obtain ⟨j, hj⟩ := hI.nss
   have ed : (stB c k' b q a).dec = b'.dec := by rw [p4]; rfl
   refine ⟨p3.k4, rfl, by rw [ed]; exact p3.sub, by rw [ed]; exact p3.nd, by rw [ed]; exact p3.xml, by rw [ed]; exact p3.dn, ⟨j + 1, ?_⟩, by rw [ed]; exact p3.kd⟩
   show b.nss ++ [[]] = _
   rw [hj, List.append_assoc, List.replicate_succ']
noncomputable abbrev nms4 : List Str := [(ofString "a"), (ofString "{u}a"), (ofString "{v}b"), (ofString "{w}b")]
noncomputable def N10 : List Str := nms4 ++ [(ofString "{v}l"), (ofString "k"), (ofString "{u}k"), xsp, (ofString "{v}k"), (ofString "{w}k")]
noncomputable def okN (n : Str) : Bool := decide (n.length ≤ 100) && decide ((cutN n).1.length ≤ 100) && decide ((cutN n).2.length ≤ 100) && decide ((cutN n).1 ∈ domU) &&
 (((n.cps.toList.take 1 == (ofString "{").cps.toList) && decide (Txt.rsplitMax (tailS n) (ofString "}") 1 = [(cutN n).1, (cutN n).2])) || (!(n.cps.toList.take 1 == (ofString "{").cps.toList) && decide ((cutN n).1 = (ofString "")) && decide ((cutN n).2 = n)))
theorem okN_all : ∀ n ∈ N10, okN n = true := by decide +kernel
theorem name_ok {n : Str} (h : n ∈ N10) : NameOk n ∧ (cutN n).1 ∈ domU ∧ n.length ≤ 100 ∧ (cutN n).2.length ≤ 100 := by
 have := okN_all n h
 simp only [okN, Bool.and_eq_true, Bool.or_eq_true, decide_eq_true_eq, Bool.not_eq_true'] at this
 obtain ⟨⟨⟨⟨h1, h2⟩, h3⟩, h4⟩, h5⟩ := this
 refine ⟨⟨by lia, by lia, by lia, ?_⟩, h4, h1, h3⟩
 rcases h5 with ⟨a1, a2⟩ | ⟨⟨a1, a2⟩, a3⟩
 · exact .inl ⟨a1, a2⟩
 · exact .inr ⟨a1, a2, a3⟩
noncomputable def chk (q : Str) (a : List (Str × Str)) : Bool := decide (((q :: a.map (·.1)).map nkey).Nodup) && decide ((q :: a.map (·.1)).Nodup) && decide (a.length ≤ 6) && (q :: a.map (·.1)).all (fun n => decide (n ∈ N10)) && a.all (fun p => decide (p.2.length ≤ 20) && decide ((escA p.2).length ≤ 60))
theorem chk_all : ∀ q ∈ nms4, ∀ b1 b2 b3 fc : Bool, ∀ sp, sp < 4 → chk q (atB b1 b2 b3 sp fc) = true := by decide +kernel
theorem yN_len : ∀ rw : Bool, ∀ q ∈ N10, (yN rw q).length ≤ 100 := by decide +kernel
theorem names_ok {q : Str} {a : List (Str × Str)} {fc : Bool} (hq : Nm4 q) (ha : AtOk fc a) : NamesOk q a := by
 obtain ⟨b1, b2, b3, sp, hsp⟩ := ha
 have := chk_all q hq b1 b2 b3 fc sp hsp
 simp only [chk, Bool.and_eq_true, decide_eq_true_eq, List.all_eq_true] at this
 obtain ⟨⟨⟨⟨h1, h2⟩, h3⟩, h4⟩, h5⟩ := this
 exact ⟨h1, h2, h3, fun n hn => name_ok (h4 n hn), h5, fun rw n hn => yN_len rw n (h4 n hn)⟩
theorem root_k : ∀ q ∈ nms4, ∀ b1 b2 b3 : Bool, ∀ sp, sp < 4 → kOf true 0 (srt q (atB b1 b2 b3 sp true)) = some 4 := by decide +kernel
theorem yN_ok : ∀ rw : Bool, ∀ q ∈ nms4, 32 ∉ lof (yN rw q) ∧ (yN rw q).length ≤ 20 := by decide +kernel
theorem pOf_len : ∀ rw : Bool, ∀ u ∈ domU, (pOf rw u).length ≤ 20 ∧ (escA u).length ≤ 200 := by decide +kernel
theorem lof_ofString1 : lof (ofString "<") = [60] ∧ lof (ofString ">") = [62] ∧ lof (ofString " ") = [32] := by decide
noncomputable def midA (al : List (Str × Str)) : List Nat := if al = [] then [] else (al.map fun p => lof (fmtA p)).flatten
theorem lof_open (y : Str) (al : List (Str × Str)) : lof (Txt.join (ofString "") (openA y al)) = 60 :: (lof y ++ midA al) ++ [62] := by
 rw [lof_join]
 unfold openA midA
 by_cases h : al = []
 · rw [if_pos h, if_pos h]
   simp [lof_app, lof_ofString1.1, lof_ofString1.2.1]
 · rw [if_neg h, if_neg h]
   have e := lof_join (al.map fmtA)
   rw [List.map_map] at e
   have e2 : (List.map (lof ∘ fmtA) al).flatten = (al.map fun p => lof (fmtA p)).flatten := rfl
   rw [e2] at e
   have e3 : ∀ z : List Nat, z = lof (Txt.join (ofString "") (al.map fmtA)) → (List.map lof ([(ofString "<") ++ y] ++ [Txt.join (ofString "") (al.map fmtA)] ++ [(ofString ">")])).flatten = lof (ofString "<") ++ lof y ++ z ++ lof (ofString ">") := by
    rintro z rfl
    simp [lof_app]
   rw [e3 _ e.symm, lof_ofString1.1, lof_ofString1.2.1]
   simp
theorem midA_or (al : List (Str × Str)) : midA al = [] ∨ ∃ r, midA al = 32 :: r := by
 unfold midA
 cases al with
 | nil => exact .inl rfl
 | cons p r =>
  refine .inr ?_
  rw [if_neg (by simp)]
  have : lof (fmtA p) = 32 :: (lof p.1 ++ lof (ofString "=\"") ++ lof (escA p.2) ++ lof (ofString "\"")) := by
   unfold fmtA
   rw [lof_app, lof_app, lof_app, lof_app, lof_app]
   have e1 : lof Str.empty = [] := rfl
   rw [e1, lof_ofString1.2.2]
   simp
  rw [List.map_cons, List.flatten_cons, this]
  exact ⟨_, rfl⟩
theorem lof_mid (y : Str) (al : List (Str × Str)) : lof (midS (Txt.join (ofString "") (openA y al))) = lof y ++ midA al := by
 show (((lof (Txt.join (ofString "") (openA y al))).drop 1).dropLast).toArray.toList = _
 rw [lof_open]
 simp
theorem open_piece {y : Str} {al : List (Str × Str)} (hy : 32 ∉ lof y) : ∃ tl, Txt.split (midS (Txt.join (ofString "") (openA y al))) (ofString " ") = y :: tl :=
 split_head (c := 32) (lof_mid y al) hy (midA_or al)
theorem fmt_len {p : Str × Str} {n : Nat} (h1 : p.1.length ≤ 200) (h2 : (escA p.2).length ≤ 200) : (fmtA p).length ≤ 500 := by
 unfold fmtA
 have z0 : Str.empty.length = 0 := by decide
 have z1 : (ofString " ").length = 1 := by decide
 have z2 : (ofString "=\"").length = 2 := by decide
 have z3 : (ofString "\"").length = 1 := by decide
 rw [len_app, len_app, len_app, len_app, len_app]
 lia
theorem openA_len {y : Str} {al : List (Str × Str)} (hy : y.length ≤ 20) (h : ∀ p ∈ al, p.1.length ≤ 200 ∧ (escA p.2).length ≤ 200) (hl : al.length ≤ 20) : (openA y al).length ≤ 3 ∧ ∀ z ∈ openA y al, z.length ≤ 10000 := by
 unfold openA
 constructor
 · split <;> simp
 · intro z hz
   have z1 : (ofString "<").length = 1 := by decide
   have z2 : (ofString ">").length = 1 := by decide
   rcases List.mem_append.mp hz with hz | hz
   · rcases List.mem_append.mp hz with hz | hz
     · rw [List.mem_singleton.mp hz, len_app]; lia
     · split at hz
       · cases hz
       · rw [List.mem_singleton.mp hz]
         have := join_big (l := al.map fmtA) (c := 500) (fun p hp => by
          obtain ⟨q, hq, rfl⟩ := List.mem_map.mp hp
          exact fmt_len (n := 0) (h q hq).1 (h q hq).2) (by rw [List.length_map]; lia)
         rw [List.length_map] at this
         lia
   · rw [List.mem_singleton.mp hz]; lia
theorem start_al {c : Cfg} {k' : Nat} {b : Ab} {q : Str} {a : List (Str × Str)} (hN : NamesOk q a) (hI : Inv2 c k' (stB c k' b q a)) :
 (∀ p ∈ declA (addU c.rw (urs (outsA b.dec)) (srt q a)) ++ attrA ((srt q a).map fun n => (n, yN c.rw n)) a, p.1.length ≤ 200 ∧ (escA p.2).length ≤ 200) ∧ (declA (addU c.rw (urs (outsA b.dec)) (srt q a)) ++ attrA ((srt q a).map fun n => (n, yN c.rw n)) a).length ≤ 20 := by
 constructor
 · intro p hp
   rcases List.mem_append.mp hp with hp | hp
   · unfold declA at hp
     have hp := (lsort_perm _).mem_iff.mp hp
     obtain ⟨z, hz, rfl⟩ := List.mem_map.mp hp
     obtain ⟨_, h2, n, hn', h3⟩ := addU_mem hz
     have hd := (hN.dom n (srt_mem.mp hn')).2.1
     rw [h3] at hd
     have h4 := pOf_len c.rw z.1 hd
     have z1 : (ofString "xmlns:").length = 6 := by decide
     refine ⟨?_, h4.2⟩
     show ((ofString "xmlns:") ++ z.2).length ≤ 200
     rw [len_app, h2]
     lia
   · unfold attrA at hp
     obtain ⟨z, hz, rfl⟩ := List.mem_map.mp hp
     have hz := (lsort_perm _).mem_iff.mp hz
     have hm : z.1 ∈ q :: a.map (·.1) := List.mem_cons_of_mem _ (List.mem_map_of_mem (f := (·.1)) hz)
     refine ⟨?_, by have := (hN.val z hz).2; show (escA z.2).length ≤ 200; lia⟩
     show (if _ then _ else _ : Str).length ≤ 200
     split
     · have := (hN.dom z.1 hm).2.2.2; lia
     · rw [firstP_map (srt_mem.mpr hm)]
       have := hN.yl c.rw z.1 hm
       show (yN c.rw z.1).length ≤ 200
       lia
 · have h1 := hI.dz
   have hl : addU c.rw (urs (outsA b.dec)) (srt q a) ∈ (stB c k' b q a).dec := by
    show _ ∈ b.dec ++ [_]
    simp
   have h2 := len_outsA hl
   have h3 := hN.al
   unfold declA attrA
   rw [List.length_append, (lsort_perm _).length_eq, List.length_map, List.length_map, (lsort_perm _).length_eq]
   lia
theorem addU_cov {rw : Bool} : ∀ {names hv : List Str} {n : Str}, n ∈ names → (cutN n).1 ∈ hv ∨ (cutN n).1 ∈ urs (addU rw hv names) ∨ ((cutN n).1 = (ofString "") ∧ rw = false)
 | m :: r, hv, n, h => by
  rw [addU]
  rcases List.mem_cons.mp h with rfl | h
  · split
    · rename_i hc
      exact hc.imp id .inr
    · exact .inr (.inl (List.mem_cons_self ..))
  · split
    · exact addU_cov h
    · rcases addU_cov (rw := rw) (hv := (cutN m).1 :: hv) h with h | h | h
      · rcases List.mem_cons.mp h with h | h
        · exact .inr (.inl (by rw [h]; exact List.mem_cons_self ..))
        · exact .inl h
      · exact .inr (.inl (List.mem_cons_of_mem _ h))
      · exact .inr (.inr h)
theorem WayOk.snoc {c : Cfg} {b b1 b2 : Ab} {es : List Ev} {e : Ev} (h : WayOk c b es b1) (h1 : StepOk c b1 e) (h2 : stepA c b1 e = some b2) : WayOk c b (es ++ [e]) b2 := by
 induction h with
 | nil => exact .cons h1 h2 .nil
 | cons a1 a2 _ ih => exact .cons a1 a2 (ih h1 h2)
theorem openA_len3 (y : Str) (al : List (Str × Str)) : (openA y al).length ≤ 3 := by unfold openA; split <;> simp
noncomputable abbrev cfg (rw sp : Bool) : Cfg := ⟨rw, sp, false, false⟩
inductive Fr (c : Cfg) : List Ev → List Str → List Str → Ab → Nat → Prop
 | nil : Fr c [] [] [] (tgt c) 0
 | snoc {way ns hs f k k' q a} : Fr c way ns hs f k → Nm4 q → NamesOk q a → kOf c.rw k (srt q a) = some k' → way.length < 4 → (c.rw = true → k' = 4) → (c.rw = false → k' = 0) →
  Fr c (way ++ [.st q a]) (ns ++ [q]) (hs ++ [yN c.rw q]) (stB c k' f q a) k'
structure FrOk (c : Cfg) (way : List Ev) (ns hs : List Str) (f : Ab) (k : Nat) : Prop where
 inv : Inv2 c k f
 data : f.data = []
 ign : f.ign = 0
 prl : f.pres.length = way.length + 1
 dcl : f.dec.length = way.length + 1
 nsl : f.nss.length ≤ way.length + 2
 seen : way ≠ [] → f.seen = true
 out : f.out.length ≤ 3 * way.length
 told : WayOk c (tgt c) way f
 kr : way ≠ [] → c.rw = true → k = 4
 kn : c.rw = false → k = 0
 wl : way.length ≤ 4
 nl : ns.length = way.length
 hl : hs.length = way.length
theorem FrOk.fit {c : Cfg} {way : List Ev} {ns hs : List Str} {f : Ab} {k : Nat} (h : FrOk c way ns hs f k) {o d : List Str} {x : Bool} (hd : d = [] ∨ (∃ y, d = [y] ∧ y.length ≤ 190)) (hw : d ≠ [] → way ≠ []) (ho : o.length < 1000) : Fit { f with out := o, data := d, done := x } := by
 refine ⟨?_, ?_, ?_, by show o.length < _; lia, fun e => ?_⟩
 · by_cases e : d = []
   · exact .inr e
   · exact .inl (h.seen (hw e))
 · rcases hd with rfl | ⟨y, rfl, _⟩
   · show 0 < 1000; decide
   · show 1 < 1000; decide
 · rcases hd with rfl | ⟨y, rfl, hy⟩
   · show 0 ≤ 1000; decide
   · show ([y].map (·.length)).sum ≤ 1000
     simp; lia
 · have := h.prl
   rw [show f.pres = [] from e] at this
   cases this
theorem Inv2.put {c : Cfg} {k : Nat} {f : Ab} (h : Inv2 c k f) {o d : List Str} {x : Bool} : Inv2 c k { f with out := o, data := d, done := x } := ⟨h.k4, h.pm, h.sub, h.nd, h.xml, h.dn, h.nss, h.kd⟩
theorem Fr.ok {rw sp : Bool} {way : List Ev} {ns hs : List Str} {f : Ab} {k : Nat} (h : Fr (cfg rw sp) way ns hs f k) : FrOk (cfg rw sp) way ns hs f k := by
 induction h with
 | nil =>
  rw [tgt_is]
  refine ⟨⟨by decide, ?_, ?_, ?_, ?_, by simp, ⟨0, by simp⟩, ?_⟩, rfl, rfl, rfl, rfl, ?_, fun h => absurd rfl h, by simp, ?_, fun h => absurd rfl h, fun _ => rfl, by simp, rfl, rfl⟩
  · cases rw <;> rfl
  · cases rw with
    | false => exact (by decide : ∀ p ∈ outsA [[(xns, (ofString "xml"))]], p ∈ tblR false)
    | true => exact (by decide : ∀ p ∈ outsA [[(xns, (ofString "xml"))]], p ∈ tblR true)
  · exact (by decide : (urs (outsA [[(xns, (ofString "xml"))]])).Nodup)
  · exact (by decide : xns ∈ urs (outsA [[(xns, (ofString "xml"))]]))
  · intro _ u hu
    have : u ∈ [xns] := hu
    exact .inl (List.mem_singleton.mp this)
  · cases rw <;> decide
  · rw [← tgt_is]; exact .nil
 | @snoc way ns hs f k k' q a h hq hN hk hl hr hn ih =>
  have hfit : Fit f := by
   have := ih.fit (o := f.out) (d := []) (x := f.done) (.inl rfl) (fun h => absurd rfl h) (by have := ih.out; lia)
   have e : ({ f with out := f.out, data := [], done := f.done } : Ab) = f := by rw [← ih.data]
   rw [e] at this; exact this
  obtain ⟨s1, s2, s3⟩ := start2 (k' := k') ih.inv hN hk hfit (by have := ih.out; lia) (by have := ih.prl; lia) (by have := ih.nsl; lia) (by have := ih.dcl; lia)
  have hne : way ++ [Ev.st q a] ≠ [] := by simp
  refine ⟨s3, rfl, ih.ign, ?_, ?_, ?_, fun _ => rfl, ?_, ih.told.snoc s2 s1, fun _ => hr, hn, by simp; lia, by simp [ih.nl], by simp [ih.hl]⟩
  · show (f.pres ++ [_]).length = _
    rw [List.length_append, ih.prl]; simp
  · show (f.dec ++ [_]).length = _
    rw [List.length_append, ih.dcl]; simp
  · show (f.nss ++ [[]]).length ≤ _
    have := ih.nsl
    simp; lia
  · show (f.out ++ flOut _ (lastP f) f.data ++ openA _ _).length ≤ _
    rw [ih.data, flOut_nil, List.append_nil, List.length_append, List.length_append]
    have h1 := ih.out
    refine Nat.le_trans (Nat.add_le_add h1 (openA_len3 _ _)) ?_
    simp only [List.length_cons, List.length_nil]
    lia
noncomputable abbrev opn (c : Cfg) (f : Ab) (q : Str) (a : List (Str × Str)) : List Str := openA (yN c.rw q) (declA (addU c.rw (urs (outsA f.dec)) (srt q a)) ++ attrA ((srt q a).map fun n => (n, yN c.rw n)) a)
theorem opn_len {c : Cfg} {k' : Nat} {f : Ab} {q : Str} {a : List (Str × Str)} (hq : Nm4 q) (hN : NamesOk q a) (hI : Inv2 c k' (stB c k' f q a)) : (opn c f q a).length ≤ 3 ∧ ∀ z ∈ opn c f q a, z.length ≤ 10000 := by
 obtain ⟨h1, h2⟩ := start_al hN hI
 exact openA_len (yN_ok c.rw q hq).2 h1 h2
theorem piece_start {rw sp : Bool} {way : List Ev} {ns hs : List Str} {f : Ab} {k k' : Nat} {q : Str} {a : List (Str × Str)} (h : FrOk (cfg rw sp) way ns hs f k) (hq : Nm4 q) (hN : NamesOk q a) (hk : kOf rw k (srt q a) = some k') :
 PieceOk (cfg rw sp) way (.st q a) (Txt.join (ofString "") (opn (cfg rw sp) f q a)) ∧ (Txt.join (ofString "") (opn (cfg rw sp) f q a)).length ≤ 172000 ∧ 2 ≤ (Txt.join (ofString "") (opn (cfg rw sp) f q a)).length := by
 have hfit : Fit { f with out := [] } := by
  have := h.fit (o := []) (d := []) (x := f.done) (.inl rfl) (fun h => absurd rfl h) (by simp)
  have e : ({ f with out := [], data := [], done := f.done } : Ab) = { f with out := [] } := by rw [← h.data]
  rw [e] at this; exact this
 have hI : Inv2 (cfg rw sp) k { f with out := [] } := ⟨h.inv.k4, h.inv.pm, h.inv.sub, h.inv.nd, h.inv.xml, h.inv.dn, h.inv.nss, h.inv.kd⟩
 obtain ⟨s1, s2, s3⟩ := start2 (k' := k') hI hN hk hfit (by show 0 < _; decide) (by show f.pres.length < _; have := h.prl; have := h.wl; lia) (by show f.nss.length < _; have := h.nsl; have := h.wl; lia) (by show f.dec.length < _; have := h.dcl; have := h.wl; lia)
 obtain ⟨l1, l2⟩ := opn_len (f := { f with out := [] }) hq hN s3
 have hout : (flushed (cfg rw sp) (stB (cfg rw sp) k' { f with out := [] } q a)).out = opn (cfg rw sp) f q a := by
  show ([] ++ flOut _ (lastP f) f.data ++ opn (cfg rw sp) f q a) ++ flOut _ _ [] = _
  rw [h.data, flOut_nil, flOut_nil]
  simp
 have hj := join_big (l := opn (cfg rw sp) f q a) (c := 10000) l2 (by have : (opn (cfg rw sp) f q a).length ≤ 3 := l1; lia)
 have hj2 : (opn (cfg rw sp) f q a).length ≤ 3 := l1
 refine ⟨⟨⟨f, _, h.told, by have := h.out; have := h.wl; lia, s2, s1, ⟨.inl rfl, by show 0 < 1000; decide, by show 0 ≤ 1000; decide, ?_, ?_⟩, by rw [hout]; exact hj.1, by rw [hout]⟩, ?_⟩, ?_, ?_⟩
 · show ([] ++ flOut _ (lastP f) f.data ++ opn (cfg rw sp) f q a).length < _
   rw [h.data, flOut_nil]
   simp; lia
 · show f.pres ++ [_] ≠ []
   simp
 · have := hj.2; lia
 · have := hj.2; lia
 · have e := lof_open (yN (cfg rw sp).rw q) (declA (addU (cfg rw sp).rw (urs (outsA f.dec)) (srt q a)) ++ attrA ((srt q a).map fun n => (n, yN (cfg rw sp).rw n)) a)
   have := congrArg List.length e
   rw [lof_len] at this
   rw [this]
   simp only [List.length_append, List.length_cons]
   lia
theorem join_one (x : Str) : Txt.join (ofString "") [x] = x := lof_inj (by rw [lof_join]; simp)
theorem fl_len {st last : Bool} {d : List Str} (hd : d = [] ∨ ∃ y, d = [y] ∧ y.length ≤ 190) : (flOut st last d).length ≤ d.length ∧ ∀ z ∈ flOut st last d, z.length ≤ 172000 := by
 rcases hd with rfl | ⟨y, rfl, hy⟩
 · rw [flOut_nil]; exact ⟨by decide, fun z h => by cases h⟩
 · have h1 : (flTxt st last [y]).length ≤ 190 := by
    unfold flTxt
    rw [join_one]
    split
    · exact Nat.le_trans (fact_strip y) hy
    · exact hy
   unfold flOut
   split
   · exact ⟨by simp, fun z h => by cases h⟩
   · exact ⟨by simp, fun z h => by rw [List.mem_singleton.mp h]; exact esc_len h1⟩
theorem qn_end {c : Cfg} {k : Nat} {b : Ab} {u t : Str} (hI : Inv2 c k b) (hu : u ∈ domU) (hc : u ∈ urs (outsA b.dec) ∨ (u = (ofString "") ∧ c.rw = false)) (hk : c.rw = true → k = 4) : qnA c b u t = some (yU c.rw u t, b) := by
 have h4 : c.rw = true → u = xns ∨ u ∈ urs (pm4.take k) := fun hr => by
  rw [hk hr]
  simp only [List.mem_cons, List.not_mem_nil, or_false] at hu
  rcases hu with e | e | e | e | e
  · rw [e]; exact .inr (by decide)
  · rw [e]; exact .inr (by decide)
  · rw [e]; exact .inr (by decide)
  · rw [e]; exact .inr (by decide)
  · exact .inl e
 obtain ⟨e, _⟩ := qn2 (t := t) hI hu (fun hr => (h4 hr).imp id .inl)
 have ek : nextK c.rw k u = k := by
  unfold nextK
  split
  · rename_i hr
    rw [if_pos (h4 hr)]
  · rfl
 rw [e, ek]
 have : nxt c.rw k b u = b := by
  unfold nxt
  rw [if_pos hc, ← hI.pm]
 rw [this]
structure Sim (c : Cfg) (es : List Ev) (ns : List Str) (lt : Bool) (b : Nat) : Prop where
 ex : ∃ way hs f k o d x ps, Fr c way ns hs f k ∧ WayOk c (tgt c) es { f with out := o, data := d, done := x } ∧ (lt = false → d = []) ∧ (d = [] ∨ (∃ y, d = [y] ∧ y.length ≤ 190)) ∧ (d ≠ [] → way ≠ []) ∧ (∀ r ps2, Run2 c way hs r ps2 → Run2 c [] [] (es ++ r) (ps ++ ps2)) ∧
  (ps.map lof).flatten = ((o ++ flOut c.st (lastP f) d).map lof).flatten ∧ ps.length = es.length ∧ (∀ p ∈ ps, p.length ≤ 172000) ∧ (∀ p ∈ o, p.length ≤ 172000) ∧ o.length + d.length ≤ es.length + 2 * b
theorem Fr.zero {c : Cfg} {way : List Ev} {ns hs : List Str} {f : Ab} {k : Nat} (h : Fr c way ns hs f k) (e : ns = []) : k = 0 := by
 cases h with
 | nil => rfl
 | snoc _ _ _ _ _ _ _ => simp at e
theorem sim_nil {rw sp : Bool} : Sim (cfg rw sp) [] [] false 0 := by
 have e : (tgt (cfg rw sp)) = { tgt (cfg rw sp) with out := [], data := [], done := false } := by rw [tgt_is]
 refine ⟨[], [], tgt (cfg rw sp), 0, [], [], false, [], .nil, ?_, fun _ => rfl, .inl rfl, fun h => absurd rfl h, fun r ps2 h => h, by rw [flOut_nil]; rfl, rfl, (fun p h => by cases h), (fun p h => by cases h), by decide⟩
 rw [← e]
 exact .nil
theorem Sim.start {rw sp : Bool} {es : List Ev} {ns : List Str} {lt : Bool} {b : Nat} {q : Str} {a : List (Str × Str)} (S : Sim (cfg rw sp) es ns lt b) (hq : Nm4 q) (hN : NamesOk q a) (hk : ∀ k, (ns ≠ [] → rw = true → k = 4) → (rw = false → k = 0) → (ns = [] → k = 0) → kOf rw k (srt q a) = some (if rw = true then 4 else 0))
 (hl : ns.length < 4) (hes : es.length + 2 * b < 900) : Sim (cfg rw sp) (es ++ [.st q a]) (ns ++ [q]) false (b + 1) := by
 obtain ⟨way, hs, f, k, o, d, x, ps, hF, hW, hlt, hd, hdw, hrun, hfl, hpl, hps, ho, hol⟩ := S
 have F := hF.ok
 have hkk := hk k (fun h => F.kr (fun e => h (List.eq_nil_of_length_eq_zero (by rw [F.nl, e]; rfl)))) F.kn hF.zero
 have hfit := F.fit (o := o) (d := d) (x := x) hd hdw (by lia)
 obtain ⟨s1, s2, s3⟩ := start2 (F.inv.put (o := o) (d := d) (x := x)) hN hkk hfit (by show o.length < _; lia) (by show f.pres.length < _; have := F.prl; have := F.wl; lia) (by show f.nss.length < _; have := F.nsl; have := F.wl; lia) (by show f.dec.length < _; have := F.dcl; have := F.wl; lia)
 obtain ⟨hp, hp1, hp2⟩ := piece_start F hq hN hkk
 obtain ⟨tl, htl⟩ := open_piece (al := declA (addU rw (urs (outsA f.dec)) (srt q a)) ++ attrA ((srt q a).map fun n => (n, yN rw n)) a) (yN_ok rw q hq).1
 have hF2 : Fr (cfg rw sp) (way ++ [.st q a]) (ns ++ [q]) (hs ++ [yN rw q]) (stB (cfg rw sp) (if rw = true then 4 else 0) f q a) (if rw = true then 4 else 0) :=
  .snoc hF hq hN hkk (by have := F.nl; lia) (fun h => by rw [if_pos h]) (fun h => by rw [if_neg]; intro e; rw [show rw = false from h] at e; cases e)
 obtain ⟨l1, l2⟩ := opn_len (f := f) hq hN hF2.ok.inv
 obtain ⟨g1, g2⟩ := fl_len (st := sp) (last := lastP f) hd
 refine ⟨way ++ [.st q a], hs ++ [yN rw q], stB (cfg rw sp) (if rw = true then 4 else 0) f q a, _, o ++ flOut sp (lastP f) d ++ opn (cfg rw sp) f q a, [], x, ps ++ [Txt.join (ofString "") (opn (cfg rw sp) f q a)], hF2, hW.snoc s2 s1, fun _ => rfl, .inl rfl, fun h => absurd rfl h, ?_, ?_, by simp [hpl], ?_, ?_, ?_⟩
 · intro r ps2 hr
   have := hrun _ _ (.st hp hp2 htl hr)
   simpa using this
 · rw [flOut_nil, List.append_nil, List.map_append, List.flatten_append, hfl]
   have := lof_join (opn (cfg rw sp) f q a)
   simp only [List.map_cons, List.map_nil, List.map_append, List.flatten_append, List.flatten_cons, List.flatten_nil, List.append_nil]
   rw [this]
 · intro p hp
   rcases List.mem_append.mp hp with hp | hp
   · exact hps p hp
   · rw [List.mem_singleton.mp hp]; exact hp1
 · intro p hp
   rcases List.mem_append.mp hp with hp | hp
   · rcases List.mem_append.mp hp with hp | hp
     · exact ho p hp
     · exact g2 p hp
   · have := l2 p hp; lia
 · simp only [List.length_append, List.length_cons, List.length_nil]
   lia
theorem Sim.txt {rw sp : Bool} {es : List Ev} {ns : List Str} {b : Nat} {y : Str} (S : Sim (cfg rw sp) es ns false b) (hns : ns ≠ []) (hy : y.length ≤ 190) (hes : es.length + 2 * b < 900) : Sim (cfg rw sp) (es ++ [.tx y]) ns true b := by
 obtain ⟨way, hs, f, k, o, d, x, ps, hF, hW, hlt, hd, hdw, hrun, hfl, hpl, hps, ho, hol⟩ := S
 have F := hF.ok
 have hd0 := hlt rfl
 subst hd0
 have hwn : way ≠ [] := fun e => hns (List.eq_nil_of_length_eq_zero (by rw [F.nl, e]; rfl))
 have hd1 : ([y] : List Str) = [] ∨ ∃ z, [y] = [z] ∧ z.length ≤ 190 := .inr ⟨y, rfl, hy⟩
 obtain ⟨g1, g2⟩ := fl_len (st := sp) (last := lastP f) hd1
 have hfit := F.fit (o := []) (d := [y]) (x := f.done) hd1 (fun _ => hwn) (by simp)
 have hj := join_big (l := flOut sp (lastP f) [y]) (c := 172000) g2 (by have : (flOut sp (lastP f) [y]).length ≤ 1 := g1; lia)
 have hp : PieceOk (cfg rw sp) way (.tx y) (Txt.join (ofString "") (flOut sp (lastP f) [y])) := by
  refine ⟨⟨f, { f with out := [], data := [y] }, F.told, by have := F.out; have := F.wl; lia, ⟨F.ign, by show f.data.length < _; rw [F.data]; decide⟩, ?_, hfit, hj.1, rfl⟩, ?_⟩
  · show some _ = some _
    rw [F.data]; rfl
  · have := hj.2
    have : (flOut sp (lastP f) [y]).length ≤ 1 := g1
    lia
 refine ⟨way, hs, f, k, o, [y], x, ps ++ [Txt.join (ofString "") (flOut sp (lastP f) [y])], hF, hW.snoc (e := .tx y) ⟨F.ign, by show 0 < 1000; decide⟩ rfl, (fun h => by cases h), hd1, fun _ => hwn, ?_, ?_, by simp [hpl], ?_, ho, ?_⟩
 · intro r ps2 hr
   have := hrun _ _ (.tx hp hr)
   simpa using this
 · rw [flOut_nil, List.append_nil] at hfl
   have := lof_join (flOut sp (lastP f) [y])
   simp only [List.map_cons, List.map_nil, List.map_append, List.flatten_append, List.flatten_cons, List.flatten_nil, List.append_nil]
   rw [hfl, this]
 · intro p hp
   rcases List.mem_append.mp hp with hp | hp
   · exact hps p hp
   · rw [List.mem_singleton.mp hp]
     have := hj.2
     have : (flOut sp (lastP f) [y]).length ≤ 1 := g1
     lia
 · simp only [List.length_append, List.length_cons, List.length_nil] at hol ⊢
   lia
theorem endT_len {y : Str} (h : y.length ≤ 20) : (endT y).length ≤ 30 := by
 unfold endT
 have z0 : Str.empty.length = 0 := by decide
 have z1 : (ofString "</").length = 2 := by decide
 have z2 : (ofString ">").length = 1 := by decide
 rw [len_app, len_app, len_app]
 lia
theorem endT_is (y : Str) : Txt.join (ofString "") [endT y] = (ofString "</") ++ y ++ (ofString ">") := by
 rw [join_one]
 refine lof_inj ?_
 unfold endT
 rw [lof_app, lof_app, lof_app, lof_app, lof_app]
 rfl
theorem ab_like {b f : Ab} (h1 : b.data = []) (h2 : b.dec = f.dec) (h3 : b.nss = f.nss) (h4 : b.pmap = f.pmap) (h5 : b.pres = f.pres) (h6 : b.seen = f.seen) (h7 : b.ign = f.ign) : b = { f with out := b.out, data := [], done := b.done } := by
 cases b; cases f
 simp only at h1 h2 h3 h4 h5 h6 h7
 subst h1 h2 h3 h4 h5 h6 h7
 rfl
theorem end_ok {rw sp : Bool} {way : List Ev} {ns hs : List Str} {f : Ab} {k : Nat} {q : Str} (F : FrOk (cfg rw sp) way ns hs f k) (hw : way ≠ []) (hq : Nm4 q) (hc : (cutN q).1 ∈ urs (outsA f.dec) ∨ ((cutN q).1 = (ofString "") ∧ rw = false)) {o d : List Str} {x : Bool} (hd : d = [] ∨ (∃ y, d = [y] ∧ y.length ≤ 190)) (ho : o.length < 1000) :
 EndOk (cfg rw sp) { f with out := o, data := d, done := x } q ∧ stepA (cfg rw sp) { f with out := o, data := d, done := x } (.en q) = some (ended { f with out := o ++ flOut sp (lastP f) d, data := [], done := x } (yN rw q)) := by
 obtain ⟨n1, n2, _, _⟩ := name_ok (n := q) (List.mem_append_left _ hq)
 have hqn : qnA (cfg rw sp) (flushed (cfg rw sp) { f with out := o, data := d, done := x }) (cutN q).1 (cutN q).2 = some (yN rw q, { f with out := o ++ flOut sp (lastP f) d, data := [], done := x }) :=
  qn_end (c := cfg rw sp) (k := k) (F.inv.put (o := o ++ flOut sp (lastP f) d) (d := []) (x := x)) n2 hc (F.kr hw)
 refine ⟨⟨F.ign, F.fit hd (fun _ => hw) ho, (F.inv.put).sane, n1, ?_, ?_, ?_, ?_, ?_⟩, ?_⟩
 · rw [hqn]; exact fun h => by cases h
 · show f.pres.length < _; have := F.prl; have := F.wl; lia
 · show f.dec.length < _; have := F.dcl; have := F.wl; lia
 · show f.nss.length < _; have := F.nsl; have := F.wl; lia
 · obtain ⟨j, hj⟩ := F.inv.nss
   show f.nss ≠ []
   rw [hj]
   unfold nss0
   simp
 · show Option.map _ _ = _
   rw [hqn]; rfl
theorem Fr.snocs {rw sp : Bool} {way : List Ev} {ns hs : List Str} {f : Ab} {k : Nat} {q : Str} (h : Fr (cfg rw sp) way (ns ++ [q]) hs f k) : ∃ way0 hs0 f0 k0 a, way = way0 ++ [.st q a] ∧ hs = hs0 ++ [yN rw q] ∧ f = stB (cfg rw sp) k f0 q a ∧ Fr (cfg rw sp) way0 ns hs0 f0 k0 ∧ Nm4 q ∧ NamesOk q a := by
 generalize e : ns ++ [q] = l at h
 cases h with
 | nil => simp at e
 | @snoc way0 ns0 hs0 f0 k0 _ q0 a h hq hN hk hl hr hn =>
  obtain ⟨e1, e2⟩ := List.append_inj' e rfl
  have e2 : q = q0 := by simpa using e2
  subst e1; subst e2
  exact ⟨way0, hs0, f0, k0, a, rfl, rfl, rfl, h, hq, hN⟩
structure Popped (c : Cfg) (es : List Ev) (ns : List Str) (b : Nat) : Prop where
 ex : ∃ way hs f k bw ps, Fr c way ns hs f k ∧ WayOk c (tgt c) es bw ∧ bw.data = [] ∧ (way ≠ [] → bw = { f with out := bw.out, data := [], done := bw.done }) ∧ (∀ r ps2, Run2 c way hs r ps2 → Run2 c [] [] (es ++ r) (ps ++ ps2)) ∧
  (ps.map lof).flatten = (bw.out.map lof).flatten ∧ ps.length = es.length ∧ (∀ p ∈ ps, p.length ≤ 172000) ∧ (∀ p ∈ bw.out, p.length ≤ 172000) ∧ bw.out.length ≤ es.length + 2 * b
theorem Sim.pop {rw sp : Bool} {es : List Ev} {ns : List Str} {lt : Bool} {b : Nat} {q : Str} (S : Sim (cfg rw sp) es (ns ++ [q]) lt b) (hes : es.length + 2 * b < 900) : Popped (cfg rw sp) (es ++ [.en q]) ns b := by
 obtain ⟨way, hs, f, k, o, d, x, ps, hF, hW, hlt, hd, hdw, hrun, hfl, hpl, hps, ho, hol⟩ := S
 obtain ⟨way0, hs0, f0, k0, a, rfl, rfl, ef, hF0, hq, hN⟩ := hF.snocs
 have F := hF.ok
 have F0 := hF0.ok
 have hw : way0 ++ [Ev.st q a] ≠ [] := by simp
 have hc : (cutN q).1 ∈ urs (outsA f.dec) ∨ ((cutN q).1 = (ofString "") ∧ rw = false) := by
  rw [ef]
  show (cutN q).1 ∈ urs (outsA (f0.dec ++ [addU rw (urs (outsA f0.dec)) (srt q a)])) ∨ _
  rw [outsA_app, outsA_one]
  rcases addU_cov (rw := rw) (hv := urs (outsA f0.dec)) (srt_mem.mpr (List.mem_cons_self ..) : q ∈ srt q a) with h | h | h
  · exact .inl (by rw [urs, List.map_append]; exact List.mem_append_right _ h)
  · exact .inl (by rw [urs, List.map_append]; exact List.mem_append_left _ h)
  · exact .inr h
 obtain ⟨w1, w2⟩ := end_ok F hw hq hc (o := o) (x := x) hd (by lia)
 obtain ⟨v1, v2⟩ := end_ok F hw hq hc (o := []) (d := []) (x := f.done) (.inl rfl) (by decide)
 have ef1 : ({ f with out := [], data := [], done := f.done } : Ab) = { f with out := [] } := by rw [← F.data]
 rw [ef1] at v1 v2
 obtain ⟨g1, g2⟩ := fl_len (st := sp) (last := lastP f) hd
 have hyl := (yN_ok rw q hq).2
 have htl := endT_len hyl
 have hj := join_big (l := [endT (yN rw q)]) (c := 30) (fun p hp => by rw [List.mem_singleton.mp hp]; exact htl) (by simp)
 have hb2 : (flushed (cfg rw sp) (ended { f with out := [] ++ flOut sp (lastP f) [], data := [], done := f.done } (yN rw q))).out = [endT (yN rw q)] := by
  show ([] ++ flOut sp (lastP f) [] ++ [endT (yN rw q)]) ++ flOut _ _ [] = _
  rw [flOut_nil, flOut_nil]; rfl
 have hp : PieceOk (cfg rw sp) (way0 ++ [.st q a]) (.en q) (Txt.join (ofString "") [endT (yN rw q)]) := by
  refine ⟨⟨f, _, F.told, by have := F.out; have := F.wl; lia, v1, v2, ⟨.inr rfl, by show 0 < 1000; decide, by show 0 ≤ 1000; decide, ?_, ?_⟩, by rw [hb2]; exact hj.1, by rw [hb2]⟩, ?_⟩
  · show ([] ++ flOut sp (lastP f) [] ++ [endT (yN rw q)]).length < _
    rw [flOut_nil]; simp
  · show f.pres.dropLast ≠ []
    rw [ef]
    show (f0.pres ++ [_]).dropLast ≠ []
    rw [List.dropLast_concat]
    intro e
    have := F0.prl
    rw [e] at this
    cases this
  · have := hj.2; simp at this; lia
 refine ⟨way0, hs0, f0, k0, _, ps ++ [Txt.join (ofString "") [endT (yN rw q)]], hF0, hW.snoc w1 w2, rfl, ?_, ?_, ?_, by simp [hpl], ?_, ?_, ?_⟩
 · intro h0
   have hpm : f.pmap = f0.pmap := by
    have h1 := F.inv.pm
    have h2 := F0.inv.pm
    rw [h1, h2]
    split
    · rename_i hr
      rw [F.kr hw hr, F0.kr h0 hr]
    · rfl
   have hse : f.seen = f0.seen := by rw [F.seen hw, F0.seen h0]
   have e1 : f.dec.dropLast = f0.dec := by rw [ef]; show (f0.dec ++ [_]).dropLast = _; rw [List.dropLast_concat]
   have e2 : f.nss.dropLast = f0.nss := by rw [ef]; show (f0.nss ++ [_]).dropLast = _; rw [List.dropLast_concat]
   have e3 : f.pres.dropLast = f0.pres := by rw [ef]; show (f0.pres ++ [_]).dropLast = _; rw [List.dropLast_concat]
   have e4 : f.ign = f0.ign := by rw [F.ign, F0.ign]
   exact ab_like rfl e1 e2 hpm e3 hse e4
 · intro r ps2 hr
   have := hrun _ _ (.en hp (endT_is _) (by lia) hr)
   simpa using this
 · show _ = (((o ++ flOut sp (lastP f) d) ++ [endT (yN rw q)]).map lof).flatten
   have := lof_join [endT (yN rw q)]
   simp only [List.map_cons, List.map_nil, List.map_append, List.flatten_append, List.flatten_cons, List.flatten_nil, List.append_nil] at this hfl ⊢
   rw [hfl, this]
 · intro p hp
   rcases List.mem_append.mp hp with hp | hp
   · exact hps p hp
   · rw [List.mem_singleton.mp hp]; have := hj.2; simp at this; lia
 · intro p hp
   have hp : p ∈ (o ++ flOut sp (lastP f) d) ++ [endT (yN rw q)] := hp
   rcases List.mem_append.mp hp with hp | hp
   · rcases List.mem_append.mp hp with hp | hp
     · exact ho p hp
     · exact g2 p hp
   · rw [List.mem_singleton.mp hp]; lia
 · show ((o ++ flOut sp (lastP f) d) ++ [endT (yN rw q)]).length ≤ _
   simp only [List.length_append, List.length_cons, List.length_nil]
   lia
theorem Popped.sim {rw sp : Bool} {es : List Ev} {ns : List Str} {b : Nat} (P : Popped (cfg rw sp) es ns b) (hns : ns ≠ []) : Sim (cfg rw sp) es ns false b := by
 obtain ⟨way, hs, f, k, bw, ps, hF, hW, hdt, hlk, hrun, hfl, hpl, hps, ho, hol⟩ := P
 have F := hF.ok
 have hw : way ≠ [] := fun e => hns (List.eq_nil_of_length_eq_zero (by rw [F.nl, e]; rfl))
 refine ⟨way, hs, f, k, bw.out, [], bw.done, ps, hF, (hlk hw) ▸ hW, fun _ => rfl, .inl rfl, fun h => absurd rfl h, hrun, ?_, hpl, hps, ho, by simpa using hol⟩
 rw [flOut_nil, List.append_nil]
 exact hfl
theorem Popped.plain {rw sp : Bool} {es : List Ev} {b : Nat} (P : Popped (cfg rw sp) es [] b) (hes : es.length + 2 * b ≤ 90) : Plain2 (cfg rw sp) es := by
 obtain ⟨way, hs, f, k, bw, ps, hF, hW, hdt, hlk, hrun, hfl, hpl, hps, ho, hol⟩ := P
 have hr := hrun [] [] .nil
 have hway : way = [] ∧ hs = [] := by
  have F := hF.ok
  exact ⟨List.eq_nil_of_length_eq_zero (by rw [← F.nl]; rfl), List.eq_nil_of_length_eq_zero (by rw [F.hl, ← F.nl]; rfl)⟩
 rw [List.append_nil, List.append_nil] at hr
 have j1 := join_big (l := bw.out) (c := 172000) ho (by lia)
 have j2 := join_big (l := ps) (c := 172000) hps (by lia)
 exact ⟨bw, ps, hW, hr, j1.1, j2.1, lof_inj (by rw [lof_join, lof_join, hfl])⟩
theorem close_all {rw sp : Bool} {b : Nat} : ∀ {ns : List Str} {es : List Ev} {lt : Bool} {q : Str}, Sim (cfg rw sp) es (ns ++ [q]) lt b → es.length + (ns.length + 1) + 2 * b ≤ 90 → Plain2 (cfg rw sp) (es ++ (ns ++ [q]).reverse.map .en) := by
 intro ns
 generalize hn : ns.length = n
 induction n generalizing ns with
 | zero =>
  intro es lt q S h
  have : ns = [] := List.eq_nil_of_length_eq_zero hn
  subst this
  exact (S.pop (ns := []) (by lia)).plain (by simp; lia)
 | succ n ih =>
  intro es lt q S h
  obtain ⟨ns0, q0, rfl⟩ : ∃ ns0 q0, ns = ns0 ++ [q0] := by
   rcases List.eq_nil_or_concat ns with e | ⟨a, b, e⟩
   · rw [e] at hn; cases hn
   · exact ⟨a, b, by rw [e, List.concat_eq_append]⟩
  have := ih (ns := ns0) (by simpa using hn) ((S.pop (by lia)).sim (by simp)) (by simp; lia)
  simpa using this
theorem Gen.facts {fc : Bool} {es : List Ev} {ns : List Str} {b : Nat} {lt : Bool} (h : Gen fc es ns b lt) : b ≤ 7 ∧ (0 < b → ns ≠ []) ∧ (b = 0 → ns = []) := by
 induction h with
 | nil => exact ⟨by decide, fun h => absurd h (by decide), fun _ => rfl⟩
 | root _ _ => exact ⟨by decide, fun _ => by simp, fun h => by cases h⟩
 | opn _ h0 h7 _ _ _ ih => exact ⟨by lia, fun _ => by simp, fun h => by cases h⟩
 | cls _ hne ih => exact ⟨ih.1, fun _ => hne, fun h => by have := ih.2.2 h; simp at this⟩
 | txt _ _ ih => exact ih
theorem gen_sim {rw sp : Bool} {es : List Ev} {ns : List Str} {b : Nat} {lt : Bool} (h : Gen rw es ns b lt) (ht : txLen es ≤ 189) (hl : es.length ≤ 63) : Sim (cfg rw sp) es ns lt b := by
 induction h with
 | nil => exact sim_nil
 | @root q a hq ha =>
  have hN := names_ok hq ha
  refine sim_nil.start (es := []) (ns := []) hq hN (fun k _ h2 h3 => ?_) (by decide) (by decide)
  rw [h3 rfl]
  cases rw with
  | false => rw [kOf_false]; rfl
  | true =>
   obtain ⟨b1, b2, b3, sp', hsp⟩ := ha
   exact root_k q hq b1 b2 b3 sp' hsp
 | @opn es ns b lt q a h h0 h7 hl4 hq ha ih =>
  rw [txLen_snoc] at ht
  rw [List.length_append] at hl
  have hN := names_ok hq ha
  refine (ih (by lia) (by lia)).start hq hN (fun k h1 h2 _ => ?_) hl4 (by lia)
  cases rw with
  | false => rw [kOf_false, h2 rfl]; rfl
  | true =>
   rw [h1 (h.facts.2.1 h0) rfl]
   exact kOf_four fun n hn => (hN.dom n (srt_mem.mp hn)).2.1
 | @cls es ns b lt q h hne ih =>
  rw [txLen_snoc] at ht
  rw [List.length_append] at hl
  have := h.facts.1
  exact ((ih (by lia) (by lia)).pop (by lia)).sim hne
 | @txt es ns b y h h0 ih =>
  rw [txLen_snoc] at ht
  rw [List.length_append] at hl
  have := h.facts.1
  have ht2 : txLen es + y.length ≤ 189 := ht
  exact (ih (by lia) (by lia)).txt (h.facts.2.1 h0) (by lia) (by lia)
theorem plain2 (n0 : Int) (es : List Ev) (sn : List Str) (b : Nat) (lt : Bool) (h : Gen (rwOf n0) es sn b lt) (hb : 0 < b) (ht : txLen es ≤ 189) (hl : es.length ≤ 63) (hs : sn.length ≤ 4) : Plain2 (cfgOf n0) (es ++ sn.reverse.map .en) := by
 have hS := gen_sim (sp := spOf n0) h ht hl
 obtain ⟨ns0, q0, rfl⟩ : ∃ ns0 q0, sn = ns0 ++ [q0] := by
  rcases List.eq_nil_or_concat sn with e | ⟨a, b, e⟩
  · exact absurd e (h.facts.2.1 hb)
  · exact ⟨a, b, by rw [e, List.concat_eq_append]⟩
 have := h.facts.1
 simp only [List.length_append, List.length_cons, List.length_nil] at hs
 exact close_all hS (by lia)
end Mine
end
open PySem PySem.W PySem.Calls PyProof.Rows
open PySem.Str (ofString)
set_option maxHeartbeats 8000000
namespace Mine
theorem endTrue {c : ClaimW} {cl : Str → Option Addr} {mean : ExcName → Option Value} {args : List WData} {s₁ s' : Shared} {cc P : Addr} {ps : Array Value} (hT : TabsAt [(cc, P)] s₁.heap) (hk : ∀ b o, (ghostOf s₁.heap [(cc, P)]).get? b = some o → s'.heap.get? b = some o)
 (hP : s'.heap.get? P = some (tabObj ps)) (hos : s'.os = s₁.os) (hg : AllBare s'.gens) (hr : ∀ x, c.raises args x = false) (hp : c.post args (.bool true) args = true) : GoodWG c cl mean args s₁ (.ok (.ret (.bool true))) s' := by
 obtain ⟨hc, he⟩ := hT (cc, P) (.head _)
 have old : ∀ b o, b ≠ P → s₁.heap.get? b = some o → s'.heap.get? b = some o := fun b o hb e => hk b o (ghost_ne e fun q => hb (by simpa using q))
 refine ⟨.inl ⟨_, _, [], rfl, hr, .bool true, hp, fun _ => ⟨List.nodup_nil, fun _ q => nomatch q⟩⟩, ⟨fun b o e => ?_, fun b o e => ?_⟩, hos, hg⟩
 · by_cases hb : b = P
   · subst hb
     have q := he.symm.trans e
     cases q
     exact .inr (.inl ⟨(hc.tab he).isCodeTable, rfl, #[], ps, rfl, by rw [Array.empty_append]; exact hP⟩)
   · exact .inl (old b o hb e)
 · by_cases hb : b = P
   · exact ⟨_, hb ▸ hP⟩
   · exact ⟨o, old b o hb e⟩
theorem Tb.at {w : World} {T : List Cell} (h : Tb w T) : ∃ ps, (123, tabObj ps) ∈ T := by
 rcases h with rfl | ⟨c', oc, rfl, _⟩
 · exact ⟨_, .head _⟩
 · exact ⟨_, .tail _ (.head _)⟩
end Mine
theorem PySem.Challenge.cw_dr0139_02_holds : PySem.Challenge.rw_dr0139_02.Holds := by
 refine PySem.W.holds_law Mine.said fun _ => Mine.hd ?_
 k_fill
 intro w s₀ s₁ mg mb G Y fa o pm cd doc dV kV ho hd hcd hD hmg hg args vals as hpre hlay hrd hwl hlo
 have KX := km_in_of Y
 have hT8 := km_tabs_of Y
 have hT9 : TabsAt [(125, 123)] s₁.heap := List.forall_mem_cons.mpr ⟨⟨codeHd_of_K (c := 125) (P := 123) KX (by kernel_rfl), hT8 123 (.head _)⟩, fun _ h => nomatch h⟩
 refine Ground.open G ?_
 intro T B D TE TW
 try (refine guard_noD D (by decide +kernel) ?_; clear D)
 clear hmg
 wrow_args hpre hlay hrd hwl hlo
 refine enter_call ?_
 w_top on
 w_call any ho hd hcd hD T F
 clear hd
 rename News _ _ _ _ => N
 have X' := ghost_K hT9 KX (by kernel_rfl)
 have T' := ghost_top hT9 T
 have N' := ghost_news hT9 F N
 have F' := ghost_fr hT9 F
 rename IntsAre _ _ => hI
 rename Heap.IsList _ _ _ => hL
 have hls := ghost_list hT9 hL
 refine Mine.law_spec (by k_is) Mine.plain2 ⟨⟨_, _, _, _, _, T'⟩, (ghost_code hT9).1⟩ ⟨X', T'.nolimit, ⟨_, _, _, _, topRead_of T'⟩⟩ (by decide +kernel) rfl (by decide +kernel) ⟨F', N', (by decide), hg, .of_eq rfl, rfl⟩ hls hI (by lia) (fun G' m' T news' s' hT S => ?_)
 obtain ⟨ps, hps⟩ := hT.at
 exact Mine.endTrue hT9 S.F.keep (S.get (List.mem_append_left _ hps)) S.os (by rw [S.gens]; exact S.bare) (fun _ => rfl) (by wrow_post)
