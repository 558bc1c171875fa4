import PyProof.Rows.All
import Wide.All
import OpenK.AllK
import Wide.FinOn
import PyProof.IsiH_list
import PyProof.FactsAll.set
import Lean
import PySem.Challenge.RW_dr0139_04
section
open PySem PySem.W PyProof.Rows
set_option Elab.async false
set_option maxRecDepth 100000
set_option maxHeartbeats 8000000
namespace Mine
open_top hd for PySem.Challenge.rw_dr0139_04
end Mine
end
section
open PySem PySem.W PySem.Calls PyProof.Rows
set_option Elab.async false
set_option maxRecDepth 100000
set_option linter.unusedVariables false
namespace Mine
abbrev Cell := Addr × Obj

/-- an object that is a namespace with the map m -/
def NsO (o : Obj) (m : Str → Option Value) : Prop := ∃ es ep, o.data = .dict es ep ∧ StrKeys es ∧ ∀ n, nsFind es n = m n
theorem NsO.ns {h : Heap} {a : Addr} {o : Obj} {m : Str → Option Value} (x : NsO o m) (e : h.get? a = some o) : h.Ns a m :=
  let ⟨es, ep, a1, a2, a3⟩ := x; ⟨o, es, ep, e, a1, a2, a3⟩
theorem ns_nsO {h : Heap} {a : Addr} {m : Str → Option Value} (x : h.Ns a m) : ∃ o, h.get? a = some o ∧ NsO o m :=
  let ⟨o, es, ep, e, a1, a2, a3⟩ := x; ⟨o, e, es, ep, a1, a2, a3⟩

/-- the state of a run: the frame L with the names m, every other object that matters, each at an address of its own -/
structure St (B : Heap) (os : OsState) (G : Array GenState) (L : Addr) (m : Str → Option Value) (news : List Cell) (s : Shared) : Prop where
  F : Fr B L s.heap m
  N : News B L s.heap news
  nd : (news.map (·.1)).Nodup
  gens : s.gens = G
  bare : AllBare G
  os : s.os = os

/-- one cell of the list turned -/
inductive Up (d : Addr) (o o' : Obj) : List Cell → List Cell → Prop
  | head {r} : Up d o o' ((d, o) :: r) ((d, o') :: r)
  | tail {p r r'} : Up d o o' r r' → Up d o o' (p :: r) (p :: r')
theorem Up.keys {d o o' l l'} (u : Up d o o' l l') : l'.map (·.1) = l.map (·.1) := by
  induction u with
  | head => rfl
  | tail _ ih => simp only [List.map_cons, ih]
theorem Up.mem {d o o' l l'} (u : Up d o o' l l') : (d, o) ∈ l := by
  induction u with
  | head => exact .head _
  | tail _ ih => exact .tail _ ih
theorem Up.mem' {d o o' l l'} (u : Up d o o' l l') : (d, o') ∈ l' := by
  induction u with
  | head => exact .head _
  | tail _ ih => exact .tail _ ih
theorem Up.app {d o o' l l'} (u : Up d o o' l l') (r : List Cell) : Up d o o' (l ++ r) (l' ++ r) := by
  induction u with
  | head => exact .head
  | tail _ ih => exact .tail ih
theorem Up.pre {d o o' l l'} (u : Up d o o' l l') : ∀ r : List Cell, Up d o o' (r ++ l) (r ++ l')
  | [] => u
  | _ :: r => .tail (u.pre r)
theorem Up.upd {d o o' l l'} (u : Up d o o' l l') (nd : (l.map (·.1)).Nodup) : Upd d o o' l l' := by
  induction u with
  | @head r =>
    rw [List.map_cons, List.nodup_cons] at nd
    exact .head fun p hp e => nd.1 (by show d ∈ _; rw [← e]; exact List.mem_map_of_mem (f := Prod.fst) hp)
  | @tail p r r' u ih =>
    rw [List.map_cons, List.nodup_cons] at nd
    exact .tail (fun e => nd.1 (by rw [e]; exact List.mem_map_of_mem (f := Prod.fst) u.mem)) (ih nd.2)
theorem Up.of_mem {d : Addr} {o : Obj} (o' : Obj) : ∀ {l : List Cell}, (d, o) ∈ l → ∃ l', Up d o o' l l'
  | _ :: r, .head _ => ⟨(d, o') :: r, .head⟩
  | p :: _, .tail _ h => let ⟨l', u⟩ := Up.of_mem o' h; ⟨p :: l', .tail u⟩

section
variable {B : Heap} {os : OsState} {G : Array GenState} {L : Addr} {m m' : Str → Option Value} {news news' : List Cell} {s s' : Shared}

theorem St.get (S : St B os G L m news s) {a : Addr} {o : Obj} (h : (a, o) ∈ news) : s.heap.get? a = some o := (S.N _ h).1
theorem St.lt (S : St B os G L m news s) {p : Cell} (h : p ∈ news) : p.1 < s.heap.objs.size := Heap.lt_size (S.N _ h).1
theorem St.sub (S : St B os G L m news s) (h : ∀ p ∈ news', p ∈ news) (nd : (news'.map (·.1)).Nodup) : St B os G L m news' s :=
  ⟨S.F, fun p hp => S.N p (h p hp), nd, S.gens, S.bare, S.os⟩
theorem St.perm (S : St B os G L m news s) (h : news.Perm news') : St B os G L m news' s :=
  S.sub (fun p hp => h.symm.subset hp) ((h.map (·.1)).nodup S.nd)
theorem St.drop (S : St B os G L m news s) (h : news'.Sublist news) : St B os G L m news' s :=
  S.sub (fun p hp => h.subset hp) ((h.map (·.1)).nodup S.nd)
theorem St.swap {a b r : List Cell} (S : St B os G L m (a ++ (b ++ r)) s) : St B os G L m (b ++ (a ++ r)) s :=
  S.perm (by rw [← List.append_assoc, ← List.append_assoc]; exact List.perm_append_comm.append_right r)
/-- the same cells, another heap -/
theorem St.to (S : St B os G L m news s) (F : Fr B L s'.heap m') (N : News B L s'.heap news') (k : news'.map (·.1) = news.map (·.1)) (hg : s'.gens = s.gens := by rfl) (ho : s'.os = s.os := by rfl) : St B os G L m' news' s' :=
  ⟨F, N, by rw [k]; exact S.nd, by rw [hg]; exact S.gens, S.bare, by rw [ho]; exact S.os⟩
theorem St.toks (S : St B os G L m news ⟨h, g, d, t, o⟩) {t' : Nat} : St B os G L m news ⟨h, g, d, t', o⟩ := ⟨S.F, S.N, S.nd, S.gens, S.bare, S.os⟩
theorem St.cons (S : St B os G L m news s) {q : Addr} {o : Obj} (F : Fr B L s'.heap m) (N : News B L s'.heap ((q, o) :: news)) (h : ∀ p ∈ news, p.1 < q) (hg : s'.gens = s.gens := by rfl) (ho : s'.os = s.os := by rfl) : St B os G L m ((q, o) :: news) s' :=
  ⟨F, N, by
    rw [List.map_cons, List.nodup_cons]
    refine ⟨fun hm => ?_, S.nd⟩
    obtain ⟨p, hp, e⟩ := List.mem_map.mp hm
    exact absurd (h p hp) (by rw [e]; exact Nat.lt_irrefl _), by rw [hg]; exact S.gens, S.bare, by rw [ho]; exact S.os⟩
theorem St.push (S : St B os G L m news s) (o : Obj) (hf : o.isFreed = false := by rfl) {t : Nat} : St B os G L m ((s.heap.objs.size, o) :: news) { s with heap := s.heap.push o, toks := t } :=
  S.cons (s' := { s with heap := s.heap.push o, toks := t }) (S.F.push o) (S.N.push S.F o hf) fun _ hp => S.lt hp
end
end Mine
end
section
open PySem PySem.W PySem.Calls PyProof.Rows
set_option Elab.async false
set_option maxRecDepth 100000
set_option linter.unusedVariables false
namespace Mine
/-- the frame of a caller -/
structure FrC (B : Heap) (L : Addr) (oL : Obj) (m : Str → Option Value) : Prop where
  ns : NsO oL m
  above : B.objs.size ≤ L
theorem base_none {B : Heap} {L : Addr} (h : B.objs.size ≤ L) : B.get? L = none := by
  cases q : B.get? L with
  | none => rfl
  | some o => exact absurd (Heap.lt_size q) (Nat.not_lt.mpr h)
theorem StrKeys.noRef {es : Array DictEntry} (hk : StrKeys es) : es.toList.any (·.refKey) = false := by
  rw [List.any_eq_false]
  intro e he
  obtain ⟨n, t, h⟩ := hk e (by simpa using he)
  simp [DictEntry.refKey, h]
theorem NsO.look {o : Obj} {m : Str → Option Value} (x : NsO o m) (name : Str) : lookIn name o = some (m name) := by
  obtain ⟨es, ep, a1, a2, a3⟩ := x
  unfold lookIn
  rw [a1, ← a3 name]
  unfold nsFind findBy
  rw [← Array.find?_toList]
  dsimp only
  cases q : es.toList.find? (·.key.isStr name) with
  | some e => rfl
  | none =>
    dsimp only
    rw [StrKeys.noRef a2]
    rfl
section
variable {prog : Program} {w : World} {A : Around} {E : Value → Shared → Prop} {s s' : Shared} {B : Heap} {os : OsState} {G : Array GenState} {L : Addr} {m m' : Str → Option Value} {news news' : List Cell} {K : Frag}
theorem St.X (S : St B os G L m news s) (X : K.In B) : K.In s.heap := X.keeps S.F.keep
theorem St.back {L' : Addr} {oL : Obj} (S : St B os G L' m' ((L, oL) :: news) s) (f : FrC B L oL m) : St B os G L m news s := by
  have nd := S.nd
  rw [List.map_cons, List.nodup_cons] at nd
  refine ⟨⟨f.ns.ns (S.N _ (.head _)).1, S.F.keep, f.above⟩, fun p hp => ⟨(S.N p (.tail _ hp)).1, fun e => nd.1 ?_, (S.N p (.tail _ hp)).2.2⟩, nd.2, S.gens, S.bare, S.os⟩
  show L ∈ _
  rw [← e]; exact List.mem_map_of_mem (f := Prod.fst) hp
/-- the frame laid down as a cell, a new one begun -/
theorem St.enter (S : St B os G L m news s) {h₁ : Heap} {t : Nat} {mb : Str → Option Value} (hn : h₁.Ns s.heap.objs.size mb) (hk : ∀ b o, s.heap.get? b = some o → h₁.get? b = some o) :
    ∃ oL, FrC B L oL m ∧ St B os G s.heap.objs.size mb ((L, oL) :: news) { s with heap := h₁, toks := t } := by
  obtain ⟨oL, e, hns⟩ := ns_nsO S.F.ns
  have lt : L < s.heap.objs.size := Heap.lt_size e
  refine ⟨oL, ⟨hns, S.F.above⟩, ⟨hn, fun b o q => hk b o (S.F.keep b o q), Nat.le_trans S.F.above (Nat.le_of_lt lt)⟩, fun p hp => ?_, ?_, S.gens, S.bare, S.os⟩
  · rcases List.mem_cons.mp hp with rfl | hp
    · exact ⟨hk _ _ e, Nat.ne_of_lt lt, base_none S.F.above⟩
    · exact ⟨hk _ _ (S.N p hp).1, Nat.ne_of_lt (S.lt hp), (S.N p hp).2.2⟩
  · rw [List.map_cons, List.nodup_cons]
    refine ⟨fun hm => ?_, S.nd⟩
    obtain ⟨p, hp, e⟩ := List.mem_map.mp hm
    exact (S.N p hp).2.1 e
/-- a call of a def of the text -/
theorem call_fn {R : Result → Shared → Prop} {name qual : Str} {params : Arguments} {body : List Stmt} {scope : Scope} {dV kV doc pm cdv ct oc : Value} {an od : Option Addr} {osl : Array (Option Value)} {f : Addr} {args : Args} {binds : List (Str × Value)}
    (S : St B os G L m news s) (X : K.In B) (hlim : B.NoLimit)
    (ho : K.lookup f = some ⟨oc, od, .func (fnOf name qual params body scope dV kV doc pm an cdv ct), osl⟩) (hcd : codeIn K cdv qual = true) (hroom : A.depth < recursionLimit)
    (hbind : BindsTo s (fnOf name qual params body scope dV kV doc pm an cdv ct) args binds) (hloc : ∀ y ∈ binds, scope.names.lookup y.1 = some .local)
    (h : ∀ L' oL s', FrC B L oL m → St B os G L' (fun y => binds.reverse.lookup y) ((L, oL) :: news) s' →
      wpAny (model prog w) (A.deeper (envOf qual scope L' f cdv)) (execs body (envOf qual scope L' f cdv))
        (fun fl s' => R (.ok (.ret (match fl with | .ret v => v | _ => .none))) s')
        (fun e s' => wpAny (model prog w) (A.deeper (envOf qual scope L' f cdv)) (leaving (envOf qual scope L' f cdv) e) (fun _ s'' => R (.error e) s'') (fun e' s'' => R (.error e') s'') s') s')
    (hco : scope.isCoroutine = false := by rfl) (hgen : scope.isGenerator = false := by rfl) (hk : scope.kind = .function := by rfl)
    (hcell : ∀ x ∈ scope.names, x.2 ≠ .cell := by decide) : codeAny (model prog w) A (.call (.ref f) args) R s := by
  refine codeAny_call_def (fd := fnOf name qual params body scope dV kV doc pm an cdv ct) (body := body) (binds := binds) hroom (S.X X _ _ ho) rfl (hlim.keeps S.F.keep) (codeRec_of (S.X X) hcd) rfl hbind hcell hloc (fun h₁ hns hk₁ => ?_) hco hgen hk
  obtain ⟨oL, fc, S'⟩ := S.enter (t := s.toks + binds.length) hns hk₁
  exact h _ oL _ fc S'
/-- a store to a name of the frame -/
theorem stS {name : Str} {scope : Scope} {a : Addr} {cd : Value} {M : Model} {x : Str} {v : Value} {Q : Unit → Shared → Prop} (S : St B os G L m news s)
    (h : ∀ s', St B os G L (fun y => if y = x then some v else m y) news s' → Q () s')
    (hk : scope.kind = .function := by rfl) (hl : (envOf name scope L a cd).kindOf x = some .local := by rfl) :
    wpAny M A (storeName (envOf name scope L a cd) x v) Q E s :=
  stN S.F S.N (fun h' F' N' => h _ (S.to (s' := { s with heap := h', toks := s.toks + 1 }) F' N' rfl)) hk hl
/-- an attribute of an instance, out of its own dict -/
theorem attrS {x C dx : Addr} {od : Obj} {sl : Array (Option Value)} {am : Str → Option Value} {name : Str} {v : Value} {attr : Option Value} {expr : Bool} {Q : Value → Shared → Prop} (S : St B os G L m news s) (X : K.In B)
    (hx : (x, (⟨.ref C, some dx, .plain, sl⟩ : Obj)) ∈ news) (hd : (dx, od) ∈ news) (ho : NsO od am) (hg : plainGet K C name = true) (hh : hasDictIn K C = true) (ha : findIn K (.ref C) name = some attr) (hn : noGet K attr = true)
    (hv : am name = some v) (hv' : handedIn v = true) (h : ∀ s', St B os G L m news s' → Q v s') : wpAny (model prog w) A (getAttr (.ref x) name expr) Q E s :=
  get_value (S.X X) (InstAt.of_news S.N hx hd) (plainGet_of hg).1 (findObj_own hh ha hn (by rw [ho.look, hv])) hv' (h _ ⟨S.F, S.N, S.nd, S.gens, S.bare, S.os⟩)
/-- a def of the class, met through an instance -/
theorem methS {x C dx f : Addr} {od : Obj} {sl : Array (Option Value)} {am : Str → Option Value} {name : Str} {pl : Sem Bool} {Q : Value × List Value → Shared → Prop} (S : St B os G L m news s) (X : K.In B)
    (hx : (x, (⟨.ref C, some dx, .plain, sl⟩ : Obj)) ∈ news) (hd : (dx, od) ∈ news) (ho : NsO od am) (hg : plainGet K C name = true) (hf : findIn K (.ref C) name = some (some (.ref f))) (ht : isFn K (.ref f) = true)
    (hv : am name = none) (h : Q (.ref f, [.ref x]) s) : wpAny (model prog w) A (getMethod (.ref x) name pl) Q E s :=
  method_fn (S.X X) (InstAt.of_news S.N hx hd) (plainGet_of hg).1 (plainGet_of hg).2 hf (beq_iff_eq.mp ht) (by show (lookIn name od).map _ = _; rw [ho.look, hv]; rfl) h
end
end Mine
end
section
open PySem PySem.W PySem.Calls PyProof.Rows
set_option Elab.async false
set_option maxRecDepth 100000
set_option linter.unusedVariables false
namespace Mine
/-- a stretch of a generator's run, from a wake-up to its next yield or its end -/
abbrev SegY (P : End → Shared → Prop) (prog : Program) (w : World) (A : Around) (c : Code) (t : Sem Fin) (fs : List Frame) (s : Shared) : Prop := PySem.W.X.SegX (model prog w) A c t fs s P
section
variable {prog : Program} {w : World} {A : Around} {P : End → Shared → Prop} {c : Code} {fs : List Frame} {s : Shared}
theorem sx_wrap {α : Type} {m : Sem α} {K : α → Sem Fin} {H : Value → Sem Fin} {gd lv} (h : wpAny (model prog w) (A.over c fs) m (fun a s' => SegY P prog w A c (K a) fs s') (fun x s' => SegY P prog w A c (H x) fs s') s) :
    SegY P prog w A c (m.wrap K H gd lv) fs s := by
  rintro Γ p rfl hΓ
  obtain ⟨e, s', hr, hq⟩ := runs_wrap_of_wp (Φ := fun e s' => e.quiet = true ∧ P e s') K H gd lv m (h (Γ.over fs) p (hΓ.over fs)) (fun a p' s' h' => h' Γ p' rfl hΓ) (fun x p' s' h' => h' Γ p' rfl hΓ)
  exact ⟨e, s', hr, hq⟩
theorem sx_bind {α : Type} {m : Sem α} {K : α → Sem Fin} (h : wpAny (model prog w) (A.over c fs) m (fun a s' => SegY P prog w A c (K a) fs s') (fun x s' => SegY P prog w A c (.raise x) fs s') s) :
    SegY P prog w A c (m >>= K) fs s := by
  rw [Sem.bind_eq_wrap']; exact sx_wrap h
theorem sx_at {p' : Pos} {k : Unit → Sem Fin} (h : SegY P prog w A c (k ()) fs s) : SegY P prog w A c (.at p' k) fs s :=
  sx_wrap (m := standAt p') (K := k) (H := .raise) (gd := id) (lv := id) (wpAny_standAt h)
theorem sx_point {l : List Value} {k : Unit → Sem Fin} (h : SegY P prog w A c (k ()) fs s) : SegY P prog w A c (.point l k) fs s :=
  sx_wrap (m := point) (K := k) (H := .raise) (gd := id) (lv := fun _ => l) (wpAny_point h)
theorem sx_call {c' : Code} {hd g l} {k : Result → Sem Fin} (hc : ∀ p, SegY P prog w A c' ((model prog w).den c') (.ret k hd g l c p [] :: fs) s) : SegY P prog w A c (.call c' hd g l k) fs s := by
  rintro Γ p rfl hΓ
  obtain ⟨e, s', hr, hq⟩ := hc p (Γ.goto c') p rfl (hΓ.goto c')
  exact ⟨e, s', runs_call_seg hr, hq⟩
theorem sx_leaf {k hd g l c₁ p₁ kp} (r : Result) (hk : SegY P prog w A c₁ (k r) fs s) : SegY P prog w A c (leafOf r) (.ret k hd g l c₁ p₁ kp :: fs) s := by
  rintro Γ p rfl hΓ
  obtain ⟨e, s', hr, he⟩ := hk (Γ.goto c₁) p₁ rfl (hΓ.goto c₁)
  exact ⟨e, s', Runs.pop r hr, he⟩
theorem sx_again {c' : Code} (hq : c'.quiet = true) (hc : SegY P prog w A c' ((model prog w).den c') fs s) : SegY P prog w A c (.pure (.again c')) fs s := by
  rintro Γ p rfl hΓ
  obtain ⟨e, s', hr, he⟩ := hc (Γ.goto c') p rfl (hΓ.goto c')
  exact ⟨e, s', Runs.head (c₁ := c') (fun _ _ x => .again hq x) hr, he⟩
theorem sx_end (r : Result) (h : P (.ret r) s) : SegY P prog w A c (leafOf r) [] s := by
  rintro Γ p rfl _
  exact ⟨.ret r, s, Runs.leaf r, rfl, h⟩
theorem sx_yield {v g l} {k : Resume → Sem Fin} (hfs : splitAtGen fs = none) (hg : g = false) (hfg : fs.any Frame.guarded = false) (h : ∀ p, P (.susp v false l k c p fs) s) : SegY P prog w A c (.yield v g l k) fs s := by
  subst hg
  rintro Γ p rfl _
  exact ⟨_, s, Runs.yield' fs hfs, by simp [End.quiet, hfg], h p⟩
end
section
variable {prog : Program} {w : World} {A : Around} {P : End → Shared → Prop} {c : Code} {fs : List Frame} {s : Shared} {env : Env}
  {K : Flow → Sem Fin} {H : Value → Sem Fin} {gd : Bool → Bool} {lv : List Value → List Value}

theorem sx_forLoop {target : Expr} {it : Value} {body orelse : List Stmt} (ht : ∀ v, letOwnedTupleGo target it v = pure ())
    (h : wpAny (model prog w) (A.over (.forLoop target it body orelse env) fs) (pyNext it) (fun r s' => match r with
      | none => SegY P prog w A (.block orelse env) ((model prog w).den (.block orelse env)) fs s'
      | some v => wpAny (model prog w) (A.over (.forLoop target it body orelse env) fs) (assign target env v) (fun _ s'' =>
          SegY P prog w A (.forLoop target it body orelse env) ((execs body env).wrap (fun f => match f with
            | .next | .cont => .pure (.again (.forLoop target it body orelse env))
            | .brk => .pure (.done .next)
            | .ret v => .pure (.done (.ret v))) (fun e => (do noteFrame e env; theTreesLotGoes e : Sem Unit).wrap (fun _ => .raise e) .raise id id) id id) fs s'') (fun _ _ => False) s') (fun _ _ => False) s) :
    SegY P prog w A (.forLoop target it body orelse env) ((model prog w).den (.forLoop target it body orelse env)) fs s := by
  have e : (forTurn target it body orelse env).onRaise (fun x => do noteFrame x env; theTreesLotGoes x) = (.at target.pos fun _ =>
      ((pyNext it).onRaise (fun _ => standAt { target.pos with line := 0 })).wrap (fun r => (match r with
        | none => again (.block orelse env)
        | some v => (letOwnedTupleGo target it v >>= fun _ => assign target env v >>= fun _ => execs body env >>= fun f => match f with
          | .next | .cont => again (.forLoop target it body orelse env)
          | .brk => pure (.done .next)
          | .ret v => pure (.done (.ret v)) : Sem Fin)).wrap .pure (fun e => (do noteFrame e env; theTreesLotGoes e : Sem Unit).wrap (fun _ => .raise e) .raise id id) id id) (fun e => (do noteFrame e env; theTreesLotGoes e : Sem Unit).wrap (fun _ => .raise e) .raise id id) id id) := by
    have e2 : ∀ e : Value, (do noteFrame e env; theTreesLotGoes e : Sem Unit).bind (fun _ => (.raise e : Sem Fin)) = (do noteFrame e env; theTreesLotGoes e : Sem Unit).wrap (fun _ => .raise e) .raise id id := fun e => Sem.bind_eq_wrap _ _
    unfold forTurn
    rw [Sem.onRaise_eq_wrap]
    simp only [e2]
    show Sem.at _ _ = _
    congr 1
    funext _
    show Sem.wrap _ _ _ _ (((pyNext it).onRaise _).bind _) = _
    rw [Sem.bind_eq_wrap, Sem.wrap_wrap]
    rfl
  show SegY P prog w A _ ((forTurn target it body orelse env).onRaise (fun x => do noteFrame x env; theTreesLotGoes x)) fs s
  rw [e]
  refine sx_at (sx_wrap (wpAny_onRaise (wpAny_mono h (fun r s' hr => ?_) fun _ _ x => False.elim x)))
  cases r with
  | none => exact sx_again rfl hr
  | some v =>
    dsimp only at hr ⊢
    rw [ht v, pure_bind, Sem.bind_eq_wrap', Sem.wrap_wrap]
    refine sx_wrap (wpAny_mono hr (fun _ s'' hb => ?_) fun _ _ x => False.elim x)
    rw [Sem.bind_eq_wrap', Sem.wrap_wrap]
    refine cast (congrArg (fun t => SegY P prog w A (.forLoop target it body orelse env) t fs s'') (Sem.wrap_congr (execs body env) id id (fun f => ?_) (fun e => ?_))) hb
    · cases f <;> rfl
    · rfl

theorem sx_For {target iter : Expr} {body orelse : List Stmt} {pos : Pos}
    (h : wpAny (model prog w) (A.over c fs) (eval iter env) (fun x s₁ => wpAny (model prog w) (A.over c fs) (pyIter x) (fun it s₂ => ∀ p, SegY P prog w A (.forLoop target it body orelse env) ((model prog w).den (.forLoop target it body orelse env))
      (.ret (fun r => ((match r with | .ok f => (.pure f : Sem Flow) | .error e => .raise e).onRaise fun (x : Value) => do
        if (← field x 1) == Value.none then unsupported "frame.own-activation:exception-without-traceback"
        setFlight x env.frame).wrap K H gd lv) none (gd false) (lv []) c p [] :: fs) s₂) (fun _ _ => False) s₁) (fun _ _ => False) s)
    (hs : ∀ x, foldedSetIterable iter env x = pure x := by intro _; rfl) :
    SegY P prog w A c ((exec (.For target iter body orelse pos) env).wrap K H gd lv) fs s := by
  have e : (exec (.For target iter body orelse pos) env).wrap K H gd lv = (.at pos fun _ => (eval iter env).wrap (fun x => (foldedSetIterable iter env x >>= fun x => standAt iter.pos >>= fun _ => holding [x] (pyIter x) >>= fun it => runOwn (.forLoop target it body orelse env) env).wrap K H gd lv) H (fun g => gd (id g)) (fun l => lv (id l))) := by
    have e0 : exec (.For target iter body orelse pos) env = (standAt pos >>= fun _ => eval iter env >>= fun x => foldedSetIterable iter env x >>= fun x => standAt iter.pos >>= fun _ => holding [x] (pyIter x) >>= fun it => runOwn (.forLoop target it body orelse env) env) := rfl
    rw [e0]
    show Sem.at _ _ = _
    congr 1
    funext _
    show Sem.wrap K H gd lv ((eval iter env).bind _) = _
    rw [Sem.bind_eq_wrap, Sem.wrap_wrap]
    rfl
  rw [e]
  refine sx_at (sx_wrap (wpAny_mono h (fun x s₁ h₁ => ?_) fun _ _ x => False.elim x))
  rw [hs x, pure_bind]
  have e1 : (standAt iter.pos >>= fun _ => holding [x] (pyIter x) >>= fun it => runOwn (.forLoop target it body orelse env) env).wrap K H gd lv = (.at iter.pos fun _ => (holding [x] (pyIter x)).wrap (fun it => (runOwn (.forLoop target it body orelse env) env).wrap K H gd lv) H (fun g => gd (id g)) (fun l => lv (id l))) := by
    show Sem.at _ _ = _
    congr 1
    funext _
    show Sem.wrap K H gd lv ((holding [x] (pyIter x)).bind _) = _
    rw [Sem.bind_eq_wrap, Sem.wrap_wrap]
    rfl
  rw [e1]
  refine sx_at (sx_wrap (wpAny_holding (wpAny_mono h₁ (fun it s₂ h₂ => ?_) fun _ _ x => False.elim x)))
  exact sx_call h₂

theorem sx_If {test : Expr} {body orelse : List Stmt} {pos : Pos}
    (h : wpAny (model prog w) (A.over c fs) (isTrue test env (eval test env)) (fun b s₁ => if b = true then SegY P prog w A c ((execs body env).wrap K H gd lv) fs s₁ else SegY P prog w A c ((execs orelse env).wrap K H gd lv) fs s₁) (fun _ _ => False) s) :
    SegY P prog w A c ((exec (.If test body orelse pos) env).wrap K H gd lv) fs s := by
  have e : (exec (.If test body orelse pos) env).wrap K H gd lv = (.at pos fun _ => (isTrue test env (eval test env)).wrap (fun b => (if b = true then execs body env else execs orelse env).wrap K H gd lv) H (fun g => gd (id g)) (fun l => lv (id l))) := by
    rw [exec_If]
    show Sem.at _ _ = _
    congr 1
    funext _
    show Sem.wrap K H gd lv ((isTrue test env (eval test env)).bind _) = _
    rw [Sem.bind_eq_wrap, Sem.wrap_wrap]
    rfl
  rw [e]
  refine sx_at (sx_wrap (wpAny_mono h (fun b s₁ h₁ => ?_) fun _ _ x => False.elim x))
  cases b with
  | true => exact h₁
  | false => exact h₁

theorem sx_block_nil (h : SegY P prog w A (.block [] env) (.pure (.done .next)) fs s) : SegY P prog w A (.block [] env) ((model prog w).den (.block [] env)) fs s := h
end
theorem entry_yf : entryFor table "proto.yield_from" = some Builtin.«proto.yield_from» := entryFor_of_tree (by kernel_rfl)
theorem plain_yf : plainId "proto.yield_from" = true := by decide +kernel
theorem listiter_close : typeLookup (.type "list_iterator") "close" = pure none := by rw [typeLookup_type, builtinLookup_eq_fast]; kernel_rfl
section
variable {prog : Program} {w : World} {A : Around} {E : Value → Shared → Prop} {s : Shared}
theorem next_item {it l : Addr} {i : Nat} {items : Array Value} {x : Value} {Q : Option Value → Shared → Prop} (hit : s.heap.IsListIter it l i)
    (hl : s.heap.IsList l items) (hx : items[i]? = some x)
    (hQ : ∀ h', h'.IsListIter it l (i + 1) → Heap.SameBut it s.heap h' → Q (some x) { s with heap := h' }) :
    wpAny (model prog w) A (callSpecial? (.ref it) (Str.ofString "__next__")) Q E s := by
  obtain ⟨o, ho, hc, hd⟩ := id hit
  obtain ⟨ol, hol, _, nl, hdl⟩ := hl
  refine wpAny_callSpecial?_slot (name := Str.ofString "__next__") hit.typeIs slot_listiter_next
    (wpAny_call_entry slot_listiter_next hit.typeIs entry_listiter_next ?_ (args_listiter_next _))
  show wpAny _ _ (field (.ref it) 0 >>= _) _ _ s
  refine wpAny_bind (wpAny_field ho hd (x := .ref l) rfl ?_)
  show wpAny _ _ (if (Value.ref l == Value.none) = true then _ else _) _ _ s
  rw [if_neg (show ¬ ((Value.ref l == Value.none) = true) from Bool.false_ne_true)]
  show wpAny _ _ (field (.ref it) 1 >>= _) _ _ s
  refine wpAny_bind (wpAny_field ho hd (x := .int i 0) rfl ?_)
  show wpAny _ _ (seqItems? (.ref l) >>= _) _ _ s
  refine wpAny_bind (wpAny_seqItems hol hdl ?_)
  simp only [Int.toNat_natCast, hx]
  refine wpAny_bind (wpAny_setField ho hd (by simp) (wpAny_pure ⟨x, rfl, hQ _ ?_ (Heap.SameBut.update ..)⟩))
  exact ⟨_, Heap.get?_update_self _ ho (Obj.isFreed_of_fields (Obj.data_mapFields hd _)), (Obj.cls_mapFields ..).trans hc, by
    rw [Obj.data_mapFields hd]; simp [rawInt]⟩
theorem next_end {it l : Addr} {i : Nat} {items : Array Value} {Q : Option Value → Shared → Prop} (hh : A.handled = none) (hit : s.heap.IsListIter it l i)
    (hl : s.heap.IsList l items) (hx : items[i]? = none)
    (hE : ∀ h' e o vs, Heap.ExtBut it s.heap h' → h'.get? e = some o → o.cls = .type "StopIteration" → o.data = .fields vs → vs[5]? = some .none → E (.ref e) { s with heap := h' }) :
    wpAny (model prog w) A (callSpecial? (.ref it) (Str.ofString "__next__")) Q E s := by
  obtain ⟨o, ho, hc, hd⟩ := id hit
  obtain ⟨ol, hol, _, nl, hdl⟩ := hl
  refine wpAny_callSpecial?_slot (name := Str.ofString "__next__") hit.typeIs slot_listiter_next
    (wpAny_call_entry slot_listiter_next hit.typeIs entry_listiter_next ?_ (args_listiter_next _))
  show wpAny _ _ (field (.ref it) 0 >>= _) _ _ s
  refine wpAny_bind (wpAny_field ho hd (x := .ref l) rfl ?_)
  show wpAny _ _ (if (Value.ref l == Value.none) = true then _ else _) _ _ s
  rw [if_neg (show ¬ ((Value.ref l == Value.none) = true) from Bool.false_ne_true)]
  show wpAny _ _ (field (.ref it) 1 >>= _) _ _ s
  refine wpAny_bind (wpAny_field ho hd (x := .int i 0) rfl ?_)
  show wpAny _ _ (seqItems? (.ref l) >>= _) _ _ s
  refine wpAny_bind (wpAny_seqItems hol hdl ?_)
  simp only [Int.toNat_natCast, hx]
  refine wpAny_bind (wpAny_rule (wpAny_bind (wpAny_setField ho hd (by simp) ?_)))
  show wpAny _ _ (newExc (.type "StopIteration") [] >>= _) _ _ _
  refine wpAny_bind ?_
  simp only [newExc, newTuple]
  refine wpAny_bind (wpAny_newObj_type ?_ (by size_fits))
  refine wpAny_bind (m := firstArgMember _ _) (wpAny_of_eq (a := Value.none) (by first | rfl | (simp only [firstArgMember]; rfl)) ?_)
  refine wpAny_newObj_type ?_ (by size_fits)
  simp only [raiseNew]
  refine wpAny_bind (wpAny_handled ?_)
  rw [show A.in1.handled = none from hh]
  refine wpAny_bind (wpAny_pure (wpAny_throw ?_))
  refine hE _ _ _ _ (((Heap.SameBut.update ..).extBut.push _).push _) (Heap.get?_push_size _ rfl) rfl rfl ?_
  rfl
end
section
variable {prog : Program} {w : World} {A : Around} {P : End → Shared → Prop} {fs : List Frame} {s : Shared}
theorem den_builtin {id : String} {args : Args} {b : Builtin} (hb : entryFor table id = some b) : (model prog w).den (.builtin id args) = b args := by
  show denote table (.builtin id args) = b args
  rw [denote, hb]
abbrev yfCode (it : Addr) : Code := .builtin "proto.yield_from" ⟨[.ref it, .bool false, .none], []⟩
theorem sx_yf_item {it l : Addr} {i : Nat} {items : Array Value} {x : Value} (hit : s.heap.IsListIter it l i) (hl : s.heap.IsList l items) (hx : items[i]? = some x)
    (hfs : splitAtGen fs = none) (hfg : fs.any Frame.guarded = false)
    (h : ∀ h', h'.IsListIter it l (i + 1) → Heap.SameBut it s.heap h' → ∀ (l' : List Value) (k : Resume → Sem Fin) (p : Pos),
      (∀ (P' : End → Shared → Prop) (A' : Around) (s'' : Shared) (j : Nat), s''.heap.IsListIter it l j → SegY P' prog w A' (yfCode it) ((model prog w).den (yfCode it)) fs s'' → SegY P' prog w A' (yfCode it) (k (.send .none)) fs s'') →
      P (.susp x false l' k (yfCode it) p fs) { s with heap := h' }) :
    SegY P prog w A (yfCode it) ((model prog w).den (yfCode it)) fs s := by
  rw [den_builtin entry_yf]
  unfold Builtin.«proto.yield_from»
  dsimp only
  rw [pure_bind]
  refine sx_bind (wpAny_attempt (wpAny_holding ?_))
  rw [if_neg Bool.false_ne_true, if_pos (show (Value.none == Value.none) = true from rfl)]
  refine wpAny_bind (wpAny_rule (wpAny_bind (next_item hit hl hx (fun h' hit' hsb => ?_))))
  refine wpAny_pure ?_
  dsimp only
  refine sx_bind (wpAny_typeOf (s := { s with heap := h' }) hit'.typeIs ?_)
  dsimp only
  refine sx_bind (wpAny_of_eq listiter_close ?_)
  rw [pure_bind]
  have sl : ∀ (s' : Shared) (j : Nat) (b : Bool) (Q : Unit → Shared → Prop) (E : Value → Shared → Prop) (A' : Around), s'.heap.IsListIter it l j → Q () s' → wpAny (model prog w) A' (Builtin.Generator.sleptOver (.ref it) b) Q E s' := by
    intro s' j b Q E A' hi hq
    obtain ⟨o, ho, hc, hd⟩ := hi
    unfold Builtin.Generator.sleptOver
    refine wpAny_bind (wpAny_load ho ?_)
    rw [if_pos (by rw [hc]; decide)]
    exact wpAny_pure hq
  refine sx_bind (sl _ _ _ _ _ _ hit' ?_)
  show SegY P prog w A _ (.yield x _ [] _) fs _
  refine sx_yield hfs rfl hfg ?_
  intro p
  refine h h' hit' hsb _ _ p (fun P' A' s'' j hj hs => ?_)
  show SegY P' prog w A' _ (Builtin.Generator.sleptOver (.ref it) false >>= _) fs s''
  refine sx_bind (sl _ _ _ _ _ _ hj ?_)
  exact sx_again (plainId_quiet plain_yf _) hs
theorem sx_yf_end {it l : Addr} {i : Nat} {items : Array Value} (hit : s.heap.IsListIter it l i) (hl : s.heap.IsList l items) (hx : items[i]? = none) (hh : (A.over (yfCode it) fs).handled = none)
    (h : ∀ h', Heap.ExtBut it s.heap h' → SegY P prog w A (yfCode it) (.pure (.done (.ret .none))) fs { s with heap := h' }) :
    SegY P prog w A (yfCode it) ((model prog w).den (yfCode it)) fs s := by
  rw [den_builtin entry_yf]
  unfold Builtin.«proto.yield_from»
  dsimp only
  rw [pure_bind]
  refine sx_bind (wpAny_attempt (wpAny_holding ?_))
  rw [if_neg Bool.false_ne_true, if_pos (show (Value.none == Value.none) = true from rfl)]
  refine wpAny_bind (wpAny_rule (wpAny_bind (next_end hh hit hl hx (fun h' e o vs hex ho hc hd h5 => ?_))))
  dsimp only
  have T : (⟨h', s.gens, s.drawn, s.toks, s.os⟩ : Shared).TypeIs (.ref e) "StopIteration" := ⟨o, ho, hc⟩
  refine sx_bind ?_
  unfold Builtin.Generator.endsTheTurnAsAValue Builtin.Generator.isStopAndMetaclass
  refine wpAny_bind (wpAny_bind (wpAny_typeOf T ?_))
  dsimp only
  refine wpAny_bind (wpAny_of_eq isSubtype_stop ?_)
  refine wpAny_bind (wpAny_of_eq (a := Value.type "type") (by first | rfl | kernel_rfl) ?_)
  refine wpAny_pure ?_
  dsimp only
  rw [if_neg Bool.false_ne_true]
  refine wpAny_pure ?_
  rw [if_pos rfl, if_neg Bool.false_ne_true]
  refine sx_bind (wpAny_rule ?_)
  refine sx_bind (wpAny_field ho hd h5 ?_)
  exact h h' hex
end
end Mine
end
section
open PySem PySem.W PySem.Calls PyProof.Rows
set_option Elab.async false
set_option maxRecDepth 100000
set_option linter.unusedVariables false
namespace Mine
section
variable {prog : Program} {w : World} {A : Around} {P : End → Shared → Prop} {c : Code} {fs : List Frame} {s : Shared} {env : Env}
  {K : Flow → Sem Fin} {H : Value → Sem Fin} {gd : Bool → Bool} {lv : List Value → List Value}
theorem sx_execs_nil (h : SegY P prog w A c (K .next) fs s) : SegY P prog w A c ((execs [] env).wrap K H gd lv) fs s := h
theorem sx_execs_cons {st : Stmt} {rest : List Stmt}
    (h : SegY P prog w A c ((exec st env).wrap (fun f => match f with | .next => (execs rest env).wrap K H gd lv | f => K f) H gd lv) fs s) :
    SegY P prog w A c ((execs (st :: rest) env).wrap K H gd lv) fs s := by rw [execs_cons_wrap]; exact h
theorem sx_func {body : List Stmt}
    (h : SegY P prog w A (.func body env) ((execs body env).wrap (fun f => .pure (.done (.ret (match f with | .ret v => v | _ => .none))))
      (fun e => (leaving env e).wrap (fun _ => .raise e) .raise id id) id id) fs s) :
    SegY P prog w A (.func body env) ((model prog w).den (.func body env)) fs s := by
  show SegY P prog w A _ (.point [] fun _ => ((execs body env).onRaise (leaving env)) >>= _) fs s
  refine sx_point ?_
  rw [Sem.onRaise_eq_wrap, Sem.bind_eq_wrap', Sem.wrap_wrap]
  rw [Sem.wrap_congr (execs body env) _ _ (K' := fun f => .pure (.done (.ret (match f with | .ret v => v | _ => .none))))
    (H' := fun e => (leaving env e).wrap (fun _ => .raise e) .raise id id) (fun f => by cases f <;> rfl)
    (fun e => by rw [Sem.bind_eq_wrap, Sem.wrap_wrap]; rfl)]
  exact h
/-- the frame that waits for a «yield from» -/
structure YFr (prog : Program) (w : World) (c : Code) (fs : List Frame) (t : Sem Fin) (fr : Frame) : Prop where
  guarded : fr.guarded = false
  split : splitAtGen fs = none → splitAtGen (fr :: fs) = none
  handled : ∀ (A : Around) c', (A.over c' (fr :: fs)).handled = (A.over c' fs).handled
  pop : ∀ (P : End → Shared → Prop) (A : Around) (s : Shared) (c' : Code), SegY P prog w A c t fs s → SegY P prog w A c' (.pure (.done (.ret .none))) (fr :: fs) s
theorem sx_YieldFrom {e : Expr} {ypos pos : Pos} (hgd : gd false = false)
    (h : wpAny (model prog w) (A.over c fs) (eval e env) (fun v s₁ => ∃ l items, v = .ref l ∧ s₁.heap.IsList l items ∧ ∀ fr, YFr prog w c fs (K .next) fr →
      SegY P prog w A (yfCode s₁.heap.objs.size) ((model prog w).den (yfCode s₁.heap.objs.size)) (fr :: fs) { s₁ with heap := s₁.heap.push { cls := .type "list_iterator", data := .fields #[.ref l, .int 0 0] } }) (fun _ _ => False) s)
    (hi : interactive env = false := by rfl) :
    SegY P prog w A c ((exec (.Expr (.YieldFrom e ypos) pos) env).wrap K H gd lv) fs s := by
  rw [exec_Expr env _ pos hi rfl]
  show SegY P prog w A c (.at pos fun _ => ((eval e env >>= fun v => (standAt ypos >>= fun _ => yieldFrom env v)) >>= fun x =>
    dropValue (.YieldFrom e ypos) pos x).wrap K H gd lv) fs s
  refine sx_at ?_
  rw [Sem.bind_eq_wrap', Sem.bind_eq_wrap', Sem.wrap_wrap, Sem.wrap_wrap]
  refine sx_wrap (wpAny_mono h (fun v s₁ h₁ => ?_) fun _ _ x => False.elim x)
  obtain ⟨l, items, rfl, hl, hk⟩ := h₁
  have T : s₁.TypeIs (.ref l) "list" := hl.typeIs
  rw [Sem.bind_eq_wrap', Sem.wrap_wrap]
  refine sx_wrap (wpAny_standAt ?_)
  unfold yieldFrom
  rw [Sem.bind_eq_wrap', Sem.wrap_wrap]
  refine sx_wrap (wpAny_typeOf T ?_)
  rw [if_neg (show ¬ ((Value.type "list" == Value.type "coroutine") = true) from by decide)]
  rw [Sem.bind_eq_wrap', Sem.wrap_wrap]
  refine sx_wrap (wpAny_holding (wpAny_pyIter_list hl ?_))
  refine sx_call (fun p => hk _ ⟨?_, ?_, ?_, ?_⟩)
  · show gd _ = false
    exact hgd
  · intro q
    show (splitAtGen fs).map _ = none
    rw [q]; rfl
  · intro A c'
    rfl
  · intro P A s c' hn
    exact sx_leaf (.ok (.ret .none)) hn
end
end Mine
end
section
open PySem PySem.W PySem.Calls PyProof.Rows
set_option Elab.async false
set_option maxRecDepth 100000
set_option linter.unusedVariables false
namespace Mine
theorem ne_of_data {h : Heap} {a b : Addr} {o o' : Obj} (ea : h.get? a = some o) (eb : h.get? b = some o') (hd : o.data ≠ o'.data) : a ≠ b := by
  rintro rfl
  rw [ea] at eb
  cases eb
  exact hd rfl
theorem ne_of_cls {h : Heap} {a b : Addr} {o o' : Obj} (ea : h.get? a = some o) (eb : h.get? b = some o') (hd : o.cls ≠ o'.cls) : a ≠ b := by
  rintro rfl
  rw [ea] at eb
  cases eb
  exact hd rfl
/-- all but what lies at the named places is as it was -/
structure KeepsBut (fp : List Addr) (s s' : Shared) : Prop where
  heap : ∀ b o, b ∉ fp → s.heap.get? b = some o → s'.heap.get? b = some o
  gens : s'.gens = s.gens
  os : s'.os = s.os
theorem KeepsBut.refl (fp : List Addr) (s : Shared) : KeepsBut fp s s := ⟨fun _ _ _ e => e, rfl, rfl⟩
theorem KeepsBut.ext {fp : List Addr} {sb s : Shared} (k : KeepsBut fp sb s) {a : Addr} {h' : Heap} {t : Nat} (ha : a ∈ fp ∨ sb.heap.get? a = none) (hx : Heap.ExtBut a s.heap h') : KeepsBut fp sb { s with heap := h', toks := t } := by
  refine ⟨fun b o hb e => hx b o ?_ (k.heap b o hb e), k.gens, k.os⟩
  rintro rfl
  rcases ha with ha | ha
  · exact hb ha
  · rw [ha] at e; cases e
theorem KeepsBut.push {fp : List Addr} {sb s : Shared} (k : KeepsBut fp sb s) (o : Obj) {t : Nat} : KeepsBut fp sb { s with heap := s.heap.push o, toks := t } :=
  ⟨fun b o' hb e => Heap.get?_push_of_some _ (k.heap b o' hb e), k.gens, k.os⟩
theorem KeepsBut.tok {fp : List Addr} {sb s : Shared} (k : KeepsBut fp sb s) {t : Nat} : KeepsBut fp sb { s with toks := t } := ⟨k.heap, k.gens, k.os⟩

abbrev Lv := Addr × Array Value
def outs (l : List Lv) : List Value := (l.reverse.map (·.2.toList)).flatten
theorem outs_succ (li : List Lv) (i : Nat) (p : Lv) (h : li[i]? = some p) : outs (li.take (i + 1)) = p.2.toList ++ outs (li.take i) := by
  unfold outs
  rw [List.take_add_one, h]
  simp
theorem outs_zero (li : List Lv) : outs (li.take 0) = [] := by simp [outs]

structure StkH (h : Heap) (st : Addr) (li : List Lv) : Prop where
  lst : h.IsList st (li.map fun p => Value.ref p.1).toArray
  lv : ∀ p ∈ li, h.IsList p.1 p.2
theorem IsList.ext {h h' : Heap} {a b : Addr} {its : Array Value} {o : Obj} (x : h.IsList b its) (hx : Heap.ExtBut a h h') (ha : h.get? a = some o) (hn : ∀ xs n, o.data ≠ .seq xs n) : h'.IsList b its := by
  obtain ⟨ob, hb, hc, n, hd⟩ := x
  exact ⟨ob, hx b ob (ne_of_data hb ha (by rw [hd]; exact fun e => hn _ _ e.symm)) hb, hc, n, hd⟩
theorem StkH.ext {h h' : Heap} {st a : Addr} {li : List Lv} {o : Obj} (x : StkH h st li) (hx : Heap.ExtBut a h h') (ha : h.get? a = some o) (hn : ∀ xs n, o.data ≠ .seq xs n) : StkH h' st li :=
  ⟨IsList.ext x.lst hx ha hn, fun p hp => IsList.ext (x.lv p hp) hx ha hn⟩
theorem StkH.push {h : Heap} {st : Addr} {li : List Lv} (x : StkH h st li) (o : Obj) : StkH (h.push o) st li :=
  ⟨x.lst.at fun _ e => Heap.get?_push_of_some _ e, fun p hp => (x.lv p hp).at fun _ e => Heap.get?_push_of_some _ e⟩

structure SuspH (h : Heap) (Lg st : Addr) (li : List Lv) (rv it la : Addr) (its : Array Value) (j i : Nat) : Prop where
  stk : StkH h st li
  ns : ∃ m, h.Ns Lg m
  rv : h.IsRevIter rv st ((i : Int) - 1)
  it : h.IsListIter it la j
  la : (la, its) ∈ li
  hi : i ≤ li.length

/-- how a stretch of the generator's run ends -/
def EndP (Lg st : Addr) (li : List Lv) (next : Addr → Addr → Addr → Array Value → Nat → Nat → GenState → Prop) (fp : List Addr) (xs : List Value) (sb : Shared) (e : End) (s' : Shared) : Prop :=
  match e with
  | .ret r => xs = [] ∧ r = .ok (.ret .none) ∧ KeepsBut fp sb s'
  | .susp v gd l k c p fs => ∃ rv it la its j i, xs = v :: (its.toList.drop j ++ outs (li.take i)) ∧ SuspH s'.heap Lg st li rv it la its j i ∧ KeepsBut fp sb s' ∧
      (rv ∈ fp ∨ sb.heap.get? rv = none) ∧ (it ∈ fp ∨ sb.heap.get? it = none) ∧ next rv it la its j i (End.genState (.susp v gd l k c p fs))
def ResP (prog : Program) (w : World) (A : Around) (Lg st : Addr) (li : List Lv) (next : Addr → Addr → Addr → Array Value → Nat → Nat → GenState → Prop) (rv it la : Addr) (its : Array Value) (j i : Nat) (gs : GenState) : Prop :=
  ∃ k l c p fs cl, gs = .suspended k l c p fs cl ∧ ∀ s, SuspH s.heap Lg st li rv it la its j i →
    SegY (EndP Lg st li next [Lg, rv, it] (its.toList.drop j ++ outs (li.take i)) s) prog w A c (k (.send .none)) fs s
def GoesNs (prog : Program) (w : World) (A : Around) (Lg st : Addr) (li : List Lv) : Nat → Addr → Addr → Addr → Array Value → Nat → Nat → GenState → Prop
  | 0 => ResP prog w A Lg st li fun _ _ _ _ _ _ _ => False
  | n + 1 => ResP prog w A Lg st li (GoesNs prog w A Lg st li n)
def nextP (prog : Program) (w : World) (A : Around) (Lg st : Addr) (li : List Lv) : Nat → Addr → Addr → Addr → Array Value → Nat → Nat → GenState → Prop
  | 0 => fun _ _ _ _ _ _ _ => False
  | n + 1 => GoesNs prog w A Lg st li n
theorem GoesNs_eq (prog : Program) (w : World) (A : Around) (Lg st : Addr) (li : List Lv) (n : Nat) : GoesNs prog w A Lg st li n = ResP prog w A Lg st li (nextP prog w A Lg st li n) := by
  cases n <;> rfl

/-- the frames below the loop -/
structure FsOk (prog : Program) (w : World) (fs : List Frame) : Prop where
  split : splitAtGen fs = none
  guard : fs.any Frame.guarded = false
  handled : ∀ (A : Around) c', (A.over c' fs).handled = A.handled
  fin : ∀ (P : End → Shared → Prop) (A : Around) (s : Shared) (c' : Code), P (.ret (.ok (.ret .none))) s → SegY P prog w A c' (.pure (.done .next)) fs s

section
variable {prog : Program} {w : World} {A : Around} {qual : Str} {scope : Scope} {Lg f st : Addr} {cd : Value} {li : List Lv} {p1 p5 p6 p7 p8 p9 : Pos} {fs : List Frame}

abbrev nsLoop (p1 p5 p6 p7 p8 p9 : Pos) (rv : Addr) (env : Env) : Code :=
  .forLoop (.Name (Str.ofString "namespaces") p1) (.ref rv) [.If (.Name (Str.ofString "namespaces") p5) [.Expr (.YieldFrom (.Name (Str.ofString "namespaces") p6) p7) p8] [] p9] [] env

def OuterS (prog : Program) (w : World) (A : Around) (env : Env) (Lg st : Addr) (li : List Lv) (p1 p5 p6 p7 p8 p9 : Pos) (fs : List Frame) (n i : Nat) : Prop :=
  ∀ (sb s : Shared) (fp : List Addr) (rv : Addr), (outs (li.take i)).length = n → Lg ∈ fp → (rv ∈ fp ∨ sb.heap.get? rv = none) → StkH s.heap st li → (∃ m, s.heap.Ns Lg m) → s.heap.IsRevIter rv st ((i : Int) - 1) → KeepsBut fp sb s →
    SegY (EndP Lg st li (nextP prog w A Lg st li n) fp (outs (li.take i)) sb) prog w A (nsLoop p1 p5 p6 p7 p8 p9 rv env) ((model prog w).den (nsLoop p1 p5 p6 p7 p8 p9 rv env)) fs s
def InnerS (prog : Program) (w : World) (A : Around) (env : Env) (Lg st : Addr) (li : List Lv) (p1 p5 p6 p7 p8 p9 : Pos) (fs : List Frame) (n i : Nat) : Prop :=
  ∀ (sb s : Shared) (fp : List Addr) (rv it la : Addr) (its : Array Value) (j : Nat) (fr : Frame), (its.toList.drop j ++ outs (li.take i)).length = n → Lg ∈ fp → (rv ∈ fp ∨ sb.heap.get? rv = none) → (it ∈ fp ∨ sb.heap.get? it = none) →
    SuspH s.heap Lg st li rv it la its j i → KeepsBut fp sb s → YFr prog w (nsLoop p1 p5 p6 p7 p8 p9 rv env) fs (.pure (.again (nsLoop p1 p5 p6 p7 p8 p9 rv env))) fr →
    SegY (EndP Lg st li (nextP prog w A Lg st li n) fp (its.toList.drop j ++ outs (li.take i)) sb) prog w A (yfCode it) ((model prog w).den (yfCode it)) (fr :: fs) s

theorem Ns.extO {h h' : Heap} {L a : Addr} {m : Str → Option Value} {o : Obj} (x : h.Ns L m) (hx : Heap.ExtBut a h h') (ha : h.get? a = some o) (hn : ∀ es ep, o.data ≠ .dict es ep) : h'.Ns L m := by
  obtain ⟨oL, es, ep, e, hd, r⟩ := x
  exact ⟨oL, es, ep, hx L oL (ne_of_data e ha (by rw [hd]; exact fun q => hn _ _ q.symm)) e, hd, r⟩
theorem RevIter.extO {h h' : Heap} {rv l a : Addr} {i : Int} {o : Obj} (x : h.IsRevIter rv l i) (hx : Heap.ExtBut a h h') (ha : h.get? a = some o) (hn : o.cls ≠ .type "list_reverseiterator") : h'.IsRevIter rv l i := by
  obtain ⟨ob, e, hc, hd⟩ := x
  exact ⟨ob, hx rv ob (ne_of_cls e ha (by rw [hc]; exact fun q => hn q.symm)) e, hc, hd⟩

theorem ns_inner (hh : A.handled = none) (ok : FsOk prog w fs) {n : Nat} {env : Env} (hin : ∀ m, n = m + 1 → ∀ i, i ≤ li.length → InnerS prog w A env Lg st li p1 p5 p6 p7 p8 p9 fs m i)
    {i : Nat} (hi : i ≤ li.length) (ho : OuterS prog w A env Lg st li p1 p5 p6 p7 p8 p9 fs n i) : InnerS prog w A env Lg st li p1 p5 p6 p7 p8 p9 fs n i := by
  intro sb s fp rv it la its j fr hn hL hrv hit S k yf
  obtain ⟨oit, eit, hcit, hdit⟩ := id S.it
  have hlist : s.heap.IsList la its := S.stk.lv _ S.la
  cases hx : its[j]? with
  | none =>
    have hd : its.toList.drop j = [] := by
      rw [List.drop_eq_nil_iff]
      have := Array.getElem?_eq_none_iff.mp hx
      simpa using this
    refine sx_yf_end S.it hlist hx (by rw [yf.handled, ok.handled]; exact hh) (fun h' hex => ?_)
    have hex' : Heap.ExtBut it s.heap h' := hex
    rw [hd, List.nil_append] at hn ⊢
    refine yf.pop _ _ _ _ (sx_again rfl ?_)
    refine ho sb _ fp rv hn hL hrv (S.stk.ext hex' eit (by rw [hdit]; intro _ _ q; cases q)) ?_ (RevIter.extO S.rv hex' eit (by rw [hcit]; decide)) (k.ext hit hex')
    obtain ⟨m, hm⟩ := S.ns
    exact ⟨m, Ns.extO hm hex' eit (by rw [hdit]; intro _ _ q; cases q)⟩
  | some x =>
    have hlt : j < its.size := (Array.getElem?_eq_some_iff.mp hx).1
    have hd : its.toList.drop j = x :: its.toList.drop (j + 1) := by
      rw [List.drop_eq_getElem_cons (by simpa using hlt)]
      congr 1
      have := (Array.getElem?_eq_some_iff.mp hx).2
      simpa using this
    have hg : (fr :: fs).any Frame.guarded = false := by rw [List.any_cons, yf.guarded, ok.guard]; rfl
    refine sx_yf_item S.it hlist hx (yf.split ok.split) hg (fun h' hit' hsb l' kk p hkk => ?_)
    have hex : Heap.ExtBut it s.heap h' := hsb.extBut
    have S' : SuspH h' Lg st li rv it la its (j + 1) i := by
      obtain ⟨m, hm⟩ := S.ns
      exact ⟨S.stk.ext hex eit (by rw [hdit]; intro _ _ q; cases q), ⟨m, Ns.extO hm hex eit (by rw [hdit]; intro _ _ q; cases q)⟩, RevIter.extO S.rv hex eit (by rw [hcit]; decide), hit', S.la, S.hi⟩
    refine ⟨rv, it, la, its, j + 1, i, by rw [hd]; rfl, S', k.ext hit hex, hrv, hit, ?_⟩
    cases n with
    | zero => rw [hd] at hn; simp at hn
    | succ n =>
      show GoesNs prog w A Lg st li n rv it la its (j + 1) i _
      rw [GoesNs_eq]
      refine ⟨kk, l', yfCode it, p, fr :: fs, _, rfl, fun s'' S'' => ?_⟩
      refine hkk _ _ _ (j + 1) S''.it ?_
      exact hin n rfl i hi s'' s'' [Lg, rv, it] rv it la its (j + 1) fr (by rw [hd] at hn; simpa using hn) (.head _) (.inl (.tail _ (.head _))) (.inl (.tail _ (.tail _ (.head _)))) S'' (.refl _ _) yf

theorem ns_outer (hh : A.handled = none) (hk : scope.kind = .function) (hl : (envOf qual scope Lg f cd).kindOf (Str.ofString "namespaces") = some .local) (hsz : ∀ p ∈ li, (p.2.size : Int) < 2 ^ 63) (ok : FsOk prog w fs) {n : Nat}
    (hin : ∀ m, n = m + 1 → ∀ i, i ≤ li.length → InnerS prog w A (envOf qual scope Lg f cd) Lg st li p1 p5 p6 p7 p8 p9 fs m i) :
    ∀ i, i ≤ li.length → OuterS prog w A (envOf qual scope Lg f cd) Lg st li p1 p5 p6 p7 p8 p9 fs n i := by
  intro i
  induction i with
  | zero =>
    intro hi sb s fp rv hn hL hrv stk ns hr k
    refine sx_forLoop (fun _ => rfl) ?_
    have hr' : s.heap.IsRevIter rv st (-1) := by simpa using hr
    refine wpAny_pyNext_rev_end (by rw [ok.handled]; exact hh) hr' (fun h' hex => ?_)
    refine sx_block_nil (ok.fin _ _ _ _ ?_)
    exact ⟨outs_zero li, rfl, k.ext hrv hex⟩
  | succ i ih =>
    intro hi sb s fp rv hn hL hrv stk ns hr k
    have ih := ih (by omega)
    have hin' := ns_inner (p1 := p1) (p5 := p5) (p6 := p6) (p7 := p7) (p8 := p8) (p9 := p9) hh ok hin (i := i) (by omega) ih
    obtain ⟨⟨la, its⟩, hp⟩ : ∃ q, li[i]? = some q := ⟨li[i]'(by omega), by simp⟩
    have hmem : (la, its) ∈ li := List.mem_of_getElem? hp
    have hout := outs_succ li i _ hp
    dsimp only at hout
    have hr' : s.heap.IsRevIter rv st (i : Int) := by
      have e : (((i + 1 : Nat) : Int) - 1) = (i : Int) := by omega
      rw [e] at hr; exact hr
    obtain ⟨orv, erv, hcrv, hdrv⟩ := id hr'
    refine sx_forLoop (fun _ => rfl) ?_
    refine wpAny_pyNext_rev_item hr' stk.lst (x := .ref la) (by simp [hp]) (fun h' hr₁ hsb => ?_)
    have hex : Heap.ExtBut rv s.heap h' := hsb.extBut
    have nd : ∀ xs n, orv.data ≠ .seq xs n := by rw [hdrv]; intro _ _ q; cases q
    have stk₁ : StkH h' st li := stk.ext hex erv nd
    obtain ⟨m, hm⟩ := ns
    have ns₁ : h'.Ns Lg m := Ns.extO hm hex erv (by rw [hdrv]; intro _ _ q; cases q)
    have k₁ : KeepsBut fp sb { s with heap := h' } := k.ext (t := s.toks) hrv hex
    show wpAny _ _ (standAt _ >>= fun _ => bindName _ _ _) _ _ _
    refine wpAny_bind (wpAny_standAt (wpAny_bindName (wpAny_storeName_local (s := { s with heap := h' }) hl ns₁ (fun h₂ ns₂ hsb₂ => ?_) (by show (scope.kind == .class || (scope.kind == .module && _)) = false; rw [hk]; rfl))))
    obtain ⟨oL, esL, epL, eL, hdL, _⟩ := ns₁
    have hex₂ : Heap.ExtBut Lg h' h₂ := hsb₂.extBut
    have ndL : ∀ xs n, oL.data ≠ .seq xs n := by rw [hdL]; intro _ _ q; cases q
    have stk₂ : StkH h₂ st li := stk₁.ext hex₂ eL ndL
    have hr₂ : h₂.IsRevIter rv st ((i : Int) - 1) := by
      obtain ⟨ob, e, hc, hd⟩ := hr₁
      exact ⟨ob, hex₂ rv ob (ne_of_data e eL (by rw [hd, hdL]; intro q; cases q)) e, hc, hd⟩
    have k₂ := KeepsBut.ext (t := s.toks + 1) k₁ (.inl hL) hex₂
    refine sx_execs_cons (sx_If ?_)
    have lv₂ : h₂.IsList la its := stk₂.lv _ hmem
    have lk : (fun x => if x = Str.ofString "namespaces" then some (Value.ref la) else m x) (Str.ofString "namespaces") = some (Value.ref la) := if_pos rfl
    refine wpAny_isTrue_value ?_
    refine wpAny_Name ?_
    refine wpAny_loadName_local hk hl ns₂ lk ?_
    have hs := hsz (la, its) hmem
    refine wpAny_truthy_list lv₂ hs ?_
    cases he : its.isEmpty with
    | true =>
      have hnil : its.toList = [] := by
        have := Array.isEmpty_iff.mp he
        rw [this]
      simp only [Bool.not_true, Bool.false_eq_true, if_false]
      refine sx_execs_nil (sx_execs_nil (sx_again rfl ?_))
      rw [hout, hnil, List.nil_append] at hn ⊢
      exact ih sb _ fp rv hn hL hrv stk₂ ⟨_, ns₂⟩ hr₂ k₂.tok
    | false =>
      simp only [Bool.not_false, if_true]
      refine sx_execs_cons (sx_YieldFrom rfl ?_ (by show (scope.kind == .module && (scope.more.any _)) = false; rw [hk]; rfl))
      refine wpAny_Name ?_
      refine wpAny_loadName_local hk hl ns₂ lk ?_
      refine ⟨la, its, rfl, lv₂, fun fr yf => ?_⟩
      rw [hout] at hn ⊢
      have hz : its.toList.drop 0 = its.toList := rfl
      rw [← hz] at hn ⊢
      have hnone : sb.heap.get? h₂.objs.size = none ∨ h₂.objs.size ∈ fp := by
        by_cases q : h₂.objs.size ∈ fp
        · exact .inr q
        · left
          cases e : sb.heap.get? h₂.objs.size with
          | none => rfl
          | some o => exact absurd (Heap.lt_size (k₂.heap _ _ q e)) (Nat.lt_irrefl _)
      refine hin' sb _ fp rv h₂.objs.size la its 0 fr hn hL hrv hnone.symm ⟨stk₂.push _, ⟨_, ns₂.push _⟩, hr₂.at fun _ e => Heap.get?_push_of_some _ e, ⟨_, Heap.get?_push_size _ rfl, rfl, rfl⟩, hmem, by omega⟩ (k₂.push _) yf

theorem ns_all (hh : A.handled = none) (hk : scope.kind = .function) (hl : (envOf qual scope Lg f cd).kindOf (Str.ofString "namespaces") = some .local) (hsz : ∀ p ∈ li, (p.2.size : Int) < 2 ^ 63) (ok : FsOk prog w fs) (n : Nat) :
    ∀ i, i ≤ li.length → OuterS prog w A (envOf qual scope Lg f cd) Lg st li p1 p5 p6 p7 p8 p9 fs n i ∧ InnerS prog w A (envOf qual scope Lg f cd) Lg st li p1 p5 p6 p7 p8 p9 fs n i := by
  induction n with
  | zero =>
    intro i hi
    have o := ns_outer (p1 := p1) (p5 := p5) (p6 := p6) (p7 := p7) (p8 := p8) (p9 := p9) (A := A) (st := st) hh hk hl hsz ok (n := 0) (fun m e => by omega) i hi
    exact ⟨o, ns_inner hh ok (fun m e => by omega) hi o⟩
  | succ n ih =>
    intro i hi
    have hin : ∀ m, n + 1 = m + 1 → ∀ i, i ≤ li.length → InnerS prog w A (envOf qual scope Lg f cd) Lg st li p1 p5 p6 p7 p8 p9 fs m i := fun m e i hi => by
      have : m = n := by omega
      subst this
      exact (ih i hi).2
    have o := ns_outer (p1 := p1) (p5 := p5) (p6 := p6) (p7 := p7) (p8 := p8) (p9 := p9) hh hk hl hsz ok hin i hi
    exact ⟨o, ns_inner hh ok hin hi o⟩
end
end Mine
end
section
open PySem PySem.W PySem.Calls PyProof.Rows
set_option Elab.async false
set_option maxRecDepth 100000
set_option linter.unusedVariables false
namespace Mine
section
variable {prog : Program} {w : World} {A : Around} {E : Value → Shared → Prop} {s : Shared}
theorem SegY.quiet {P : End → Shared → Prop} {c : Code} {t : Sem Fin} {fs : List Frame} (x : SegY P prog w A c t fs s) : SegY (fun e s' => e.quiet = true ∧ P e s') prog w A c t fs s := by
  intro Γ p hc hΓ
  obtain ⟨e, s', hr, hq, hp⟩ := x Γ p hc hΓ
  exact ⟨e, s', hr, hq, hq, hp⟩
theorem pyNext_sx {a : Addr} {g : Nat} {gs : GenState} {c₀ : Code} {t₀ : Sem Fin} {fs₀ : List Frame} {Q : Option Value → Shared → Prop} {P : End → Shared → Prop} (hh : A.handled = none) (hl : s.heap.NoLimit) (hroom : A.depth < recursionLimit)
    (hg : s.heap.IsGen a g) (hgs : s.gens[g]? = some gs)
    (hst : (gs = .fresh c₀ ∧ t₀ = denote table c₀ ∧ fs₀ = []) ∨ ∃ k₀ l₀ p₀ cl, gs = .suspended k₀ l₀ c₀ p₀ fs₀ cl ∧ t₀ = k₀ (.send .none))
    (x : SegY P prog w A.in1 c₀ t₀ fs₀ (s.setGen g .running))
    (hY : ∀ v gd l k c p fs s₁, P (.susp v gd l k c p fs) s₁ → (End.susp v gd l k c p fs).quiet = true → Q (some v) (s₁.setGen g (End.genState (.susp v gd l k c p fs))))
    (hR : ∀ r s₁, P (.ret r) s₁ → r = .ok (.ret .none) ∧ ∀ h', (∀ b o, s₁.heap.get? b = some o → h'.get? b = some o) → Q none { s₁.setGen g .finished with heap := h' }) :
    wpAny (model prog w) A (pyNext (.ref a)) Q E s := by
  unfold pyNext
  refine wpAny_bind (wpAny_attempt (wpAny_callSpecial?_slot (name := Str.ofString "__next__") hg.typeIs slot_gen_next
    (wpAny_call_entry slot_gen_next hg.typeIs entry_gen_next ?_ (args_gen_next _))))
  show wpAny _ _ (Builtin.Generator.genWake (.ref a) (.send .none)) _ _ s
  unfold Builtin.Generator.genWake
  refine wpAny_bind (wpAny_holding (wpAny_genNumber hg (wpAny_bind (wpAny_genState hgs ?_))))
  have key : ∀ (Q' : PySem.Fin → Shared → Prop) (E' : Value → Shared → Prop) (k : GenResult → Sem PySem.Fin),
      (∀ e s₁, e.quiet = true ∧ P e s₁ → wpAny (model prog w) A.in1 (k e.result) Q' E' (s₁.setGen g e.genState)) → wpAny (model prog w) A.in1 (.resume g (.send .none) [] k) Q' E' s := by
    intro Q' E' k hk Γ p hΓ
    refine X.wake_any _ prog w hgs ?_ (fun Γ => Γ.In A.in1) (fun _ h => h) (X.SegX.mono x.quiet fun e s₁ hp Γ p hC => hk e s₁ hp Γ p hC) Γ p hΓ
    rcases hst with ⟨a, b, c⟩ | h
    · exact .inl ⟨a, rfl, b, c⟩
    · exact .inr h
  have go : wpAny (model prog w) A.in1 roomToWake (fun _ s' => s' = s) (fun _ _ => False) s := wpAny_roomToWake hl hroom rfl
  rcases hst with ⟨rfl, b, c⟩ | ⟨k₀, l₀, p₀, cl, rfl, b⟩
  all_goals
    refine wpAny_bind (wpAny_roomToWake hl hroom ?_)
    show wpAny _ _ (.resume g (.send .none) [] _) _ _ s
    refine key _ _ _ (fun e s₁ hp => ?_)
    cases e with
    | susp v gd l k c p fs => exact wpAny_pure ⟨v, rfl, wpAny_pure (hY v gd l k c p fs s₁ hp.2 hp.1)⟩
    | ret r =>
      obtain ⟨rfl, hq⟩ := hR r s₁ hp.2
      show wpAny _ _ (newExc (.type "StopIteration") [] >>= _) _ _ _
      refine wpAny_bind ?_
      simp only [newExc, newTuple]
      refine wpAny_bind (wpAny_newObj_type ?_ (by size_fits))
      refine wpAny_bind (m := firstArgMember _ _) (wpAny_of_eq (a := Value.none) (by first | rfl | (simp only [firstArgMember]; rfl)) ?_)
      refine wpAny_newObj_type ?_ (by size_fits)
      simp only [raiseNew]
      refine wpAny_bind (wpAny_bind (wpAny_handled ?_))
      rw [show A.in1.handled = none from hh]
      refine wpAny_throw ?_
      refine wpAny_bind (wpAny_isInstance (T := "StopIteration") (b := true) ⟨_, Heap.get?_push_size _ rfl, rfl⟩ isSubtype_stop ?_)
      exact wpAny_pure (hq _ fun b o hb => Heap.get?_push_of_some _ (Heap.get?_push_of_some _ hb))

abbrev nsBody (p1 p2 p3 p4 p5 p6 p7 p8 p9 p10 : Pos) : List Stmt :=
  [.For (.Name (Str.ofString "namespaces") p1) (.Call (.Name (Str.ofString "_reversed") p2) [.Name (Str.ofString "ns_stack") p3] [] p4)
    [.If (.Name (Str.ofString "namespaces") p5) [.Expr (.YieldFrom (.Name (Str.ofString "namespaces") p6) p7) p8] [] p9] [] p10]

theorem ns_fresh {qual : Str} {scope : Scope} {Lg f st : Addr} {cd : Value} {li : List Lv} {p1 p2 p3 p4 p5 p6 p7 p8 p9 p10 : Pos} {m : Str → Option Value} (hh : A.handled = none) (hk : scope.kind = .function)
    (hl : (envOf qual scope Lg f cd).kindOf (Str.ofString "namespaces") = some .local) (hl2 : (envOf qual scope Lg f cd).kindOf (Str.ofString "_reversed") = some .local) (hl3 : (envOf qual scope Lg f cd).kindOf (Str.ofString "ns_stack") = some .local)
    (hsz : ∀ p ∈ li, (p.2.size : Int) < 2 ^ 63) (hm : s.heap.Ns Lg m) (m2 : m (Str.ofString "_reversed") = some (.type "reversed")) (m3 : m (Str.ofString "ns_stack") = some (.ref st)) (stk : StkH s.heap st li) :
    SegY (EndP Lg st li (nextP prog w A Lg st li (outs li).length) [Lg] (outs li) s) prog w A (.func (nsBody p1 p2 p3 p4 p5 p6 p7 p8 p9 p10) (envOf qual scope Lg f cd)) (denote table (.func (nsBody p1 p2 p3 p4 p5 p6 p7 p8 p9 p10) (envOf qual scope Lg f cd))) [] s := by
  refine sx_func (sx_execs_cons (sx_For ?_))
  refine wpAny_Call_ofName (wpAny_Name (wpAny_loadName_local hk hl2 hm m2 ?_))
  refine PyProof.Rows.callWith_type1 ?_
  refine spliced_more (wpAny_Name (wpAny_loadName_local hk hl3 hm m3 ?_))
  refine spliced_none ?_
  refine call_reversed_list stk.lst ?_
  have hr : (s.heap.push (revObj st (((li.map fun p => Value.ref p.1).toArray.size : Int) - 1))).IsRevIter s.heap.objs.size st ((li.length : Int) - 1) :=
    ⟨_, Heap.get?_push_size _ rfl, rfl, by unfold revObj; simp⟩
  refine wpAny_pyIter_revIter (s := { s with heap := s.heap.push (revObj st (((li.map fun p => Value.ref p.1).toArray.size : Int) - 1)) }) hr (fun p => ?_)
  have e : li.take li.length = li := List.take_length
  have gen : ∀ fs, FsOk prog w fs → SegY (EndP Lg st li (nextP prog w A Lg st li (outs li).length) [Lg] (outs li) s) prog w A (nsLoop p1 p5 p6 p7 p8 p9 s.heap.objs.size (envOf qual scope Lg f cd)) ((model prog w).den (nsLoop p1 p5 p6 p7 p8 p9 s.heap.objs.size (envOf qual scope Lg f cd))) fs
      { s with heap := s.heap.push (revObj st (((li.map fun p => Value.ref p.1).toArray.size : Int) - 1)) } := by
    intro fs ok
    have o := (ns_all (A := A) (st := st) (p1 := p1) (p5 := p5) (p6 := p6) (p7 := p7) (p8 := p8) (p9 := p9) hh hk hl hsz ok (outs li).length li.length (Nat.le_refl _)).1
    unfold OuterS at o
    rw [e] at o
    refine o s _ [Lg] s.heap.objs.size rfl (.head _) (.inr ?_) (stk.push _) ⟨m, hm.push _⟩ hr ((KeepsBut.refl _ s).push _)
    cases q : s.heap.get? s.heap.objs.size with
    | none => rfl
    | some o => exact absurd (Heap.lt_size q) (Nat.lt_irrefl _)
  exact gen _ ⟨rfl, rfl, fun _ _ => rfl, fun P A s c' h => sx_leaf (.ok .next) (sx_end (.ok (.ret .none)) h)⟩
end
end Mine
end
section
open PySem PySem.W PySem.Calls PyProof.Rows
set_option Elab.async false
set_option maxRecDepth 100000
set_option linter.unusedVariables false
namespace Mine
/-- the stack's list and the lists of its levels stand in the ledger -/
structure StkL (st : Addr) (li : List Lv) (news : List Cell) : Prop where
  lst : ∃ n, (st, listOf (li.map fun p => Value.ref p.1).toArray n) ∈ news
  lv : ∀ p ∈ li, ∃ n, (p.1, listOf p.2 n) ∈ news
theorem StkL.mono {st : Addr} {li : List Lv} {news news' : List Cell} (x : StkL st li news) (h : ∀ p ∈ news, p ∈ news') : StkL st li news' :=
  ⟨let ⟨n, a⟩ := x.lst; ⟨n, h _ a⟩, fun p hp => let ⟨n, a⟩ := x.lv p hp; ⟨n, h _ a⟩⟩
theorem listOf_isList {h : Heap} {a : Addr} {its : Array Value} {n : Nat} (e : h.get? a = some (listOf its n)) : h.IsList a its := ⟨_, e, rfl, n, rfl⟩
section
variable {prog : Program} {w : World} {A : Around} {E : Value → Shared → Prop} {s s' : Shared} {B : Heap} {os : OsState} {G : Array GenState} {L : Addr} {m : Str → Option Value} {news : List Cell} {K : Frag} {Lg st ga : Addr} {li : List Lv} {g : Nat}
theorem StkL.heap (x : StkL st li news) (S : St B os G L m news s) : StkH s.heap st li :=
  ⟨let ⟨_, a⟩ := x.lst; listOf_isList (S.get a), fun p hp => let ⟨_, a⟩ := x.lv p hp; listOf_isList (S.get a)⟩

inductive GenAt (prog : Program) (w : World) (A : Around) (Lg st : Addr) (li : List Lv) (g : Nat) : List Value → List Cell → Array GenState → Prop
  | fresh {oLg : Obj} {m : Str → Option Value} {qual : Str} {scope : Scope} {f : Addr} {cd : Value} {p1 p2 p3 p4 p5 p6 p7 p8 p9 p10 : Pos} {G : Array GenState} :
      NsO oLg m → m (Str.ofString "_reversed") = some (.type "reversed") → m (Str.ofString "ns_stack") = some (.ref st) → scope.kind = .function →
      (envOf qual scope Lg f cd).kindOf (Str.ofString "namespaces") = some .local → (envOf qual scope Lg f cd).kindOf (Str.ofString "_reversed") = some .local → (envOf qual scope Lg f cd).kindOf (Str.ofString "ns_stack") = some .local →
      G[g]? = some (.fresh (.func (nsBody p1 p2 p3 p4 p5 p6 p7 p8 p9 p10) (envOf qual scope Lg f cd))) → GenAt prog w A Lg st li g (outs li) [(Lg, oLg)] G
  | mid {oLg orv oit : Obj} {m : Str → Option Value} {rv it la : Addr} {its : Array Value} {j i : Nat} {gs : GenState} {G : Array GenState} {n : Nat} :
      NsO oLg m → orv.cls = .type "list_reverseiterator" → orv.data = .fields #[.ref st, rawInt ((i : Int) - 1)] → oit.cls = .type "list_iterator" → oit.data = .fields #[.ref la, .int j 0] → (la, its) ∈ li → i ≤ li.length →
      G[g]? = some gs → GoesNs prog w A Lg st li n rv it la its j i gs → GenAt prog w A Lg st li g (its.toList.drop j ++ outs (li.take i)) [(Lg, oLg), (rv, orv), (it, oit)] G

theorem set_set {α : Type} (a : Array α) (g : Nat) (x y : α) : (a.setIfInBounds g x).setIfInBounds g y = a.setIfInBounds g y := by
  apply Array.ext'
  simp
theorem AllBare.set {G : Array GenState} (h : AllBare G) (g : Nat) {x : GenState} (hx : x.bare = true) : AllBare (G.setIfInBounds g x) := by
  intro y hy
  rcases Array.mem_or_eq_of_mem_setIfInBounds hy with h' | rfl
  · exact h y h'
  · exact hx

/-- the consumer's state behind a stretch of the generator's run -/
theorem St.woken {gc : List Cell} {s₁ : Shared} {rv it la : Addr} {its : Array Value} {j i : Nat} {gs' : GenState} {oLg : Obj} (S : St B os G L m (gc ++ news) s) {fp : List Addr} (hfp : ∀ a ∈ fp, ∃ o, (a, o) ∈ gc) (hLg : (Lg, oLg) ∈ gc)
    (k : KeepsBut fp (s.setGen g .running) s₁) (S' : SuspH s₁.heap Lg st li rv it la its j i) (hrv : rv ∈ fp ∨ s.heap.get? rv = none) (hit : it ∈ fp ∨ s.heap.get? it = none) (hb : gs'.bare = true) :
    ∃ oLg' orv oit m', NsO oLg' m' ∧ orv.cls = .type "list_reverseiterator" ∧ orv.data = .fields #[.ref st, rawInt ((i : Int) - 1)] ∧ oit.cls = .type "list_iterator" ∧ oit.data = .fields #[.ref la, .int j 0] ∧
      St B os (G.setIfInBounds g gs') L m ([(Lg, oLg'), (rv, orv), (it, oit)] ++ news) (s₁.setGen g gs') := by
  obtain ⟨m', hm'⟩ := S'.ns
  obtain ⟨oLg', eL, nL⟩ := ns_nsO hm'
  obtain ⟨orv, erv, crv, drv⟩ := S'.rv
  obtain ⟨oit, eit, cit, dit⟩ := S'.it
  refine ⟨oLg', orv, oit, m', nL, crv, drv, cit, dit, ?_⟩
  have nd := S.nd
  rw [List.map_append, List.nodup_append] at nd
  have priv : ∀ a, (a ∈ fp ∨ s.heap.get? a = none) → a ≠ L ∧ B.get? a = none ∧ a ∉ news.map (·.1) := by
    intro a ha
    rcases ha with ha | ha
    · obtain ⟨o, ho⟩ := hfp a ha
      have z := S.N _ (List.mem_append.mpr (.inl ho))
      exact ⟨z.2.1, z.2.2, fun hm => nd.2.2 _ (List.mem_map_of_mem (f := Prod.fst) ho) _ hm rfl⟩
    · refine ⟨fun e => ?_, ?_, fun hm => ?_⟩
      · obtain ⟨oL, e', _⟩ := ns_nsO S.F.ns
        rw [e, e'] at ha; cases ha
      · cases q : B.get? a with
        | none => rfl
        | some o => rw [S.F.keep _ _ q] at ha; cases ha
      · obtain ⟨p, hp, rfl⟩ := List.mem_map.mp hm
        rw [(S.N p (List.mem_append.mpr (.inr hp))).1] at ha; cases ha
  have hLp : Lg ≠ L ∧ B.get? Lg = none ∧ Lg ∉ news.map (·.1) := by
    have z := S.N _ (List.mem_append.mpr (.inl hLg))
    exact ⟨z.2.1, z.2.2, fun hm => nd.2.2 _ (List.mem_map_of_mem (f := Prod.fst) hLg) _ hm rfl⟩
  have old : ∀ b o, s.heap.get? b = some o → b ∉ fp → s₁.heap.get? b = some o := fun b o e hb => k.heap b o hb e
  have nfp : ∀ p ∈ news, p.1 ∉ fp := fun p hp hq => (priv _ (.inl hq)).2.2 (List.mem_map_of_mem (f := Prod.fst) hp)
  have pr := priv rv hrv
  have pi := priv it hit
  have d1 : Lg ≠ rv := ne_of_data eL erv (by obtain ⟨_, _, q, _⟩ := nL; rw [q, drv]; intro z; cases z)
  have d2 : Lg ≠ it := ne_of_data eL eit (by obtain ⟨_, _, q, _⟩ := nL; rw [q, dit]; intro z; cases z)
  have d3 : rv ≠ it := ne_of_cls erv eit (by rw [crv, cit]; decide)
  refine ⟨⟨?_, fun b o e => old b o (S.F.keep b o e) (fun hb => by rw [(priv b (.inl hb)).2.1] at e; cases e), S.F.above⟩, ?_, ?_, ?_, Mine.AllBare.set S.bare g hb, k.os.trans S.os⟩
  · obtain ⟨oL, e, hns⟩ := ns_nsO S.F.ns
    exact hns.ns (old _ _ e fun hb => (priv L (.inl hb)).1 rfl)
  · intro p hp
    rcases List.mem_append.mp hp with hp | hp
    · simp only [List.mem_cons, List.not_mem_nil, or_false] at hp
      rcases hp with rfl | rfl | rfl
      · exact ⟨eL, hLp.1, hLp.2.1⟩
      · exact ⟨erv, pr.1, pr.2.1⟩
      · exact ⟨eit, pi.1, pi.2.1⟩
    · have z := S.N p (List.mem_append.mpr (.inr hp))
      exact ⟨old _ _ z.1 (nfp p hp), z.2⟩
  · rw [List.map_append, List.nodup_append]
    refine ⟨?_, nd.2.1, ?_⟩
    · simp only [List.map_cons, List.map_nil, List.nodup_cons, List.mem_cons, List.not_mem_nil, or_false, not_or, not_false_eq_true, List.nodup_nil, and_true]
      exact ⟨⟨d1, d2⟩, d3⟩
    · intro a ha b hb e
      subst e
      simp only [List.map_cons, List.map_nil, List.mem_cons, List.not_mem_nil, or_false] at ha
      rcases ha with rfl | rfl | rfl
      · exact hLp.2.2 hb
      · exact pr.2.2 hb
      · exact pi.2.2 hb
  · show (s₁.gens.setIfInBounds g gs') = _
    rw [k.gens]
    show ((s.gens.setIfInBounds g .running).setIfInBounds g gs') = _
    rw [set_set, S.gens]
theorem St.wokenEnd {gc : List Cell} {s₁ : Shared} {h' : Heap} (S : St B os G L m (gc ++ news) s) {fp : List Addr} (hfp : ∀ a ∈ fp, ∃ o, (a, o) ∈ gc) (k : KeepsBut fp (s.setGen g .running) s₁) (hk : ∀ b o, s₁.heap.get? b = some o → h'.get? b = some o) :
    St B os (G.setIfInBounds g .finished) L m news { s₁.setGen g .finished with heap := h' } := by
  have nd := S.nd
  rw [List.map_append, List.nodup_append] at nd
  have priv : ∀ a, a ∈ fp → a ≠ L ∧ B.get? a = none ∧ a ∉ news.map (·.1) := by
    intro a ha
    obtain ⟨o, ho⟩ := hfp a ha
    have z := S.N _ (List.mem_append.mpr (.inl ho))
    exact ⟨z.2.1, z.2.2, fun hm => nd.2.2 _ (List.mem_map_of_mem (f := Prod.fst) ho) _ hm rfl⟩
  have old : ∀ b o, s.heap.get? b = some o → b ∉ fp → h'.get? b = some o := fun b o e hb => hk _ _ (k.heap b o hb e)
  refine ⟨⟨?_, fun b o e => old b o (S.F.keep b o e) (fun hb => by rw [(priv b hb).2.1] at e; cases e), S.F.above⟩, ?_, nd.2.1, ?_, Mine.AllBare.set S.bare g rfl, k.os.trans S.os⟩
  · obtain ⟨oL, e, hns⟩ := ns_nsO S.F.ns
    exact hns.ns (old _ _ e fun hb => (priv L hb).1 rfl)
  · intro p hp
    have z := S.N p (List.mem_append.mpr (.inr hp))
    exact ⟨old _ _ z.1 fun hq => (priv _ hq).2.2 (List.mem_map_of_mem (f := Prod.fst) hp), z.2⟩
  · show (s₁.gens.setIfInBounds g .finished) = _
    rw [k.gens]
    show ((s.gens.setIfInBounds g .running).setIfInBounds g .finished) = _
    rw [set_set, S.gens]

theorem next_ns {Q : Option Value → Shared → Prop} {xs : List Value} {gc : List Cell} {oga : Obj} {nm qn : Value} (hh : A.handled = none) (hlim : B.NoLimit) (hroom : A.depth < recursionLimit) (S : St B os G L m (gc ++ news) s)
    (hga : (ga, oga) ∈ news) (hc : oga.cls = .type "generator") (hd : oga.data = .fields #[.int g 0, nm, qn]) (hsl : oga.slots = #[]) (stk : StkL st li news) (hsz : ∀ p ∈ li, (p.2.size : Int) < 2 ^ 63) (GA : GenAt prog w A.in1 Lg st li g xs gc G)
    (k0 : xs = [] → ∀ G' s', St B os G' L m news s' → Q none s')
    (k1 : ∀ v xs' gc' G' s', xs = v :: xs' → GenAt prog w A.in1 Lg st li g xs' gc' G' → St B os G' L m (gc' ++ news) s' → Q (some v) s') :
    wpAny (model prog w) A (pyNext (.ref ga)) Q E s := by
  have hgen : s.heap.IsGen ga g := ⟨oga, nm, qn, S.get (List.mem_append.mpr (.inr hga)), hc, hd, hsl⟩
  have stk' : StkH s.heap st li := StkL.heap (stk.mono fun p hp => List.mem_append.mpr (.inr hp)) S
  have hl := hlim.keeps S.F.keep
  have inb : ∀ {gs x : GenState}, G[g]? = some gs → (G.setIfInBounds g x)[g]? = some x := by
    intro gs x h
    have := (Array.getElem?_eq_some_iff.mp h).1
    simp [this]
  cases GA with
  | @fresh oLg mL qual scope f cd p1 p2 p3 p4 p5 p6 p7 p8 p9 p10 _ hns m2 m3 hk l1 l2 l3 hg =>
    have hns' : (s.setGen g .running).heap.Ns Lg mL := hns.ns (S.get (.head _))
    have x := ns_fresh (prog := prog) (w := w) (A := A.in1) (s := s.setGen g .running) (p1 := p1) (p2 := p2) (p3 := p3) (p4 := p4) (p5 := p5) (p6 := p6) (p7 := p7) (p8 := p8) (p9 := p9) (p10 := p10) hh hk l1 l2 l3 hsz hns' m2 m3 stk'
    refine pyNext_sx hh hl hroom hgen (by rw [S.gens]; exact hg) (.inl ⟨rfl, rfl, rfl⟩) x ?_ ?_
    · intro v gd l k c p fs s₁ hp hq
      obtain ⟨rv, it, la, its, j, i, hxs, S', kb, hrv, hit, hn⟩ := hp
      have hfp : ∀ a ∈ [Lg], ∃ o, (a, o) ∈ [(Lg, oLg)] := fun a ha => ⟨oLg, by rw [List.mem_singleton.mp ha]; exact .head _⟩
      obtain ⟨oLg', orv, oit, m', n1, n2, n3, n4, n5, S₂⟩ := S.woken hfp (.head _) kb S' hrv hit (End.bare_of_quiet hq)
      refine k1 v _ _ _ _ hxs (.mid (n := (outs li).length - 1) n1 n2 n3 n4 n5 S'.la S'.hi (inb hg) ?_) S₂
      cases e : (outs li).length with
      | zero => rw [e] at hn; exact hn.elim
      | succ n => rw [e] at hn; exact hn
    · intro r s₁ hp
      obtain ⟨hxs, hr, kb⟩ := hp
      have hfp : ∀ a ∈ [Lg], ∃ o, (a, o) ∈ [(Lg, oLg)] := fun a ha => ⟨oLg, by rw [List.mem_singleton.mp ha]; exact .head _⟩
      exact ⟨hr, fun h' hk => k0 hxs _ _ (S.wokenEnd hfp kb hk)⟩
  | @mid oLg orv oit mL rv it la its j i gs _ n hns c1 d1 c2 d2 hla hi hg hgo =>
    rw [GoesNs_eq] at hgo
    obtain ⟨k, l, c, p, fs, cl, rfl, hs⟩ := hgo
    have e1 : s.heap.get? Lg = some oLg := S.get (.head _)
    have e2 : s.heap.get? rv = some orv := S.get (.tail _ (.head _))
    have e3 : s.heap.get? it = some oit := S.get (.tail _ (.tail _ (.head _)))
    have x := hs (s.setGen g .running) ⟨stk', ⟨mL, hns.ns e1⟩, ⟨orv, e2, c1, d1⟩, ⟨oit, e3, c2, d2⟩, hla, hi⟩
    have hfp : ∀ a ∈ [Lg, rv, it], ∃ o, (a, o) ∈ [(Lg, oLg), (rv, orv), (it, oit)] := by
      intro a ha
      simp only [List.mem_cons, List.not_mem_nil, or_false] at ha
      rcases ha with rfl | rfl | rfl
      · exact ⟨_, .head _⟩
      · exact ⟨_, .tail _ (.head _)⟩
      · exact ⟨_, .tail _ (.tail _ (.head _))⟩
    refine pyNext_sx hh hl hroom hgen (by rw [S.gens]; exact hg) (.inr ⟨k, l, p, cl, rfl, rfl⟩) x ?_ ?_
    · intro v gd l k c p fs s₁ hp hq
      obtain ⟨rv', it', la', its', j', i', hxs, S', kb, hrv, hit, hn⟩ := hp
      obtain ⟨oLg', orv, oit, m', n1, n2, n3, n4, n5, S₂⟩ := S.woken hfp (.head _) kb S' hrv hit (End.bare_of_quiet hq)
      refine k1 v _ _ _ _ hxs (.mid (n := n - 1) n1 n2 n3 n4 n5 S'.la S'.hi (inb hg) ?_) S₂
      cases n with
      | zero => exact hn.elim
      | succ n => exact hn
    · intro r s₁ hp
      obtain ⟨hxs, hr, kb⟩ := hp
      exact ⟨hr, fun h' hk => k0 hxs _ _ (S.wokenEnd hfp kb hk)⟩
end
end Mine
end
section
open PySem PySem.W PySem.Calls PyProof.Rows
set_option Elab.async false
set_option maxRecDepth 100000
set_option linter.unusedVariables false
namespace Mine
/-- a namespace of at most k names -/
def NsZ (k : Nat) (o : Obj) (m : Str → Option Value) : Prop := ∃ es ep, o.data = .dict es ep ∧ StrKeys es ∧ (∀ n, nsFind es n = m n) ∧ es.size ≤ k
theorem NsZ.o {k : Nat} {o : Obj} {m : Str → Option Value} (x : NsZ k o m) : NsO o m := let ⟨es, ep, a, b, c, _⟩ := x; ⟨es, ep, a, b, c⟩
theorem NsZ.le {k k' : Nat} {o : Obj} {m : Str → Option Value} (x : NsZ k o m) (h : k ≤ k') : NsZ k' o m := let ⟨es, ep, a, b, c, d⟩ := x; ⟨es, ep, a, b, c, Nat.le_trans d h⟩
theorem isStr_key (name y : Str) (t : Tok) : (Value.str name t).isStr y = decide (y = name) := by
  show (name == y) = decide (y = name)
  by_cases h : y = name
  · subst h; simp
  · have : ¬ name = y := fun e => h e.symm
    simp [h, this]
theorem NsZ.put {k : Nat} {o : Obj} {m : Str → Option Value} (x : NsZ k o m) (name : Str) (hash : Int) (t : Tok) (v : Value) :
    NsZ (if (m name).isSome then k else k + 1) (Obj.putName name hash (.str name t) v o) (fun y => if y = name then some v else m y) := by
  obtain ⟨es, ep, hd, hk, hm, hz⟩ := x
  obtain ⟨c, d, dt, sl⟩ := o
  dsimp only at hd
  subst hd
  cases hi : es.findIdx? (·.key.isStr name) with
  | some i =>
    have hsome : (m name).isSome = true := by
      rw [← hm name]
      unfold nsFind findBy
      cases q : es.find? (fun e => e.key.isStr name) with
      | some e => rfl
      | none =>
        have z : es.findIdx? (·.key.isStr name) = none := by
          rw [Array.findIdx?_eq_none_iff]
          intro e he
          have := Array.find?_eq_none.mp q e he
          simpa using this
        rw [z] at hi; cases hi
    rw [if_pos hsome]
    refine ⟨es.modify i fun e => { e with val := v }, ep, by simp only [Obj.putName_eq, Obj.putNameByArray, hi], hk.modify _ _, fun y => ?_, by simpa using hz⟩
    show _ = if y = name then some v else m y
    rw [← hm]; exact findBy_modify (fun n v => v.isStr n) Value.isStr_inj es name y v i hi
  | none =>
    have hnone : (m name).isSome = false := by
      rw [← hm name]
      unfold nsFind findBy
      have q : es.find? (fun e => e.key.isStr name) = none := by
        rw [Array.find?_eq_none]
        intro e he
        simpa using (Array.findIdx?_eq_none_iff.mp hi) e he
      rw [q]; rfl
    rw [hnone]
    refine ⟨es.push ⟨hash, .str name t, v⟩, ep + 1, by simp only [Obj.putName_eq, Obj.putNameByArray, hi], hk.push _ _ _ _, fun y => ?_, by simp; omega⟩
    show _ = if y = name then some v else m y
    rw [← hm]
    exact findBy_push (fun n v => v.isStr n) es name y _ _ v (fun z => isStr_key name z t) hi
theorem Up.split {d : Addr} {o o' : Obj} {l l' : List Cell} (u : Up d o o' l l') : ∃ pre post, l = pre ++ (d, o) :: post ∧ l' = pre ++ (d, o') :: post := by
  induction u with
  | @head r => exact ⟨[], r, rfl, rfl⟩
  | @tail p r r' _ ih =>
    obtain ⟨pre, post, a, b⟩ := ih
    exact ⟨p :: pre, post, by rw [a]; rfl, by rw [b]; rfl⟩
section
variable {prog : Program} {w : World} {A : Around} {E : Value → Shared → Prop} {s s' : Shared} {B : Heap} {os : OsState} {G : Array GenState} {L : Addr} {m : Str → Option Value} {news : List Cell} {K : Frag}
/-- a store to an attribute of an instance -/
theorem setS {x C dx : Addr} {od : Obj} {sl : Array (Option Value)} {am : Str → Option Value} {name : Str} {v : Value} {k : Nat} {news' : Obj → List Cell} {Q : Unit → Shared → Prop} (S : St B os G L m news s) (X : K.In B)
    (hx : (x, (⟨.ref C, some dx, .plain, sl⟩ : Obj)) ∈ news) (U : ∀ od', Up dx od od' news (news' od')) (ho : NsZ k od am) (hz : k < 1000)
    (hs : findIn K (.ref C) "__setattr__" = some (some (.builtin "object.__setattr__"))) (hp : plainOver K C = true) (ht : takerIn K C name = some none) (hh : hasDictIn K C = true)
    (h : ∀ od' s', NsZ (if (am name).isSome then k else k + 1) od' (fun y => if y = name then some v else am y) → St B os G L m (news' od') s' → Q () s') : wpAny (model prog w) A (setAttr (.ref x) name v) Q E s := by
  have hz' := ho.put name (PyData.keyHash w.params name) (s.toks + 1) v
  obtain ⟨es', ep', hd', _, _, hle⟩ := id hz'
  have U' := U (Obj.putName name (PyData.keyHash w.params name) (.str name (s.toks + 1)) v od)
  obtain ⟨pre, post, e1, e2, a, b⟩ := (U'.upd S.nd).split
  have hmem : (dx, od) ∈ news := U'.mem
  have N := S.N
  rw [e1] at N
  refine set_plain (S.X X) (InstAt.of_news S.N hx hmem) hs ?_
  refine osa_dict (s := { s with toks := s.toks + 1 }) (es := es'.toList) (n := ep') S.F N (S.X X) (InstAt.of_news S.N hx hmem) rfl hp ht hh (by rw [ho.o.look]; rfl) a b rfl (by rw [hd']) ?_ (fun h' F' N' => ?_)
  · have : es'.toList.length = es'.size := by simp
    rw [this]
    split at hle <;> omega
  · refine h _ _ hz' ?_
    rw [e2]
    exact S.to (s' := { s with heap := h', toks := s.toks + 1 + 1 }) F' N' (by rw [← e2]; exact U'.keys)
/-- a call of a def that is a generator -/
theorem call_gen {R : Result → Shared → Prop} {name qual : Str} {params : Arguments} {body : List Stmt} {scope : Scope} {dV kV doc pm cdv ct oc : Value} {an od : Option Addr} {osl : Array (Option Value)} {f : Addr} {args : Args} {binds : List (Str × Value)}
    (S : St B os G L m news s) (X : K.In B) (hlim : B.NoLimit)
    (ho : K.lookup f = some ⟨oc, od, .func (fnOf name qual params body scope dV kV doc pm an cdv ct), osl⟩) (hcd : codeIn K cdv qual = true) (hroom : A.depth < recursionLimit)
    (hbind : BindsTo s (fnOf name qual params body scope dV kV doc pm an cdv ct) args binds) (hloc : ∀ y ∈ binds, scope.names.lookup y.1 = some .local)
    (h : ∀ Lg oLg ga t1 t2 s', NsO oLg (fun y => binds.reverse.lookup y) → St B os (G.push (.fresh (.func body (envOf qual scope Lg f cdv)))) L m ((Lg, oLg) :: (ga, { cls := .type "generator", data := .fields #[.int G.size 0, .str name t1, .str qual t2] }) :: news) s' →
      R (.ok (.ret (.ref ga))) s')
    (hco : scope.isCoroutine = false := by rfl) (hgen : scope.isGenerator = true := by rfl) (hk : scope.kind = .function := by rfl)
    (hcell : ∀ x ∈ scope.names, x.2 ≠ .cell := by decide) : codeAny (model prog w) A (.call (.ref f) args) R s := by
  refine codeAny_call_generator (fd := fnOf name qual params body scope dV kV doc pm an cdv ct) (body := body) hroom (S.X X _ _ ho) rfl hco hgen rfl (codeRec_of (S.X X) hcd) ?_
  refine hbind _ _ _ _ ?_
  refine wpAny_newFunctionEnv hcell hloc (fun h₁ hns hsb => ?_) hk
  have hk₁ : ∀ b o, s.heap.get? b = some o → h₁.get? b = some o := fun b o e => (hsb.2 b (Nat.ne_of_lt (Heap.lt_size e))).trans (Heap.get?_push_of_some _ e)
  refine ⟨(hlim.keeps S.F.keep).keeps hk₁, ?_⟩
  obtain ⟨oLg, eL, hL⟩ := ns_nsO hns
  have hsz : h₁.objs.size = s.heap.objs.size + 1 := by rw [hsb.1, Heap.size_push]
  have hg : s.gens.size = G.size := by rw [S.gens]
  have bn : ∀ a, s.heap.objs.size ≤ a → B.get? a = none := fun a ha => base_none (Nat.le_trans (Nat.le_trans S.F.above (Nat.le_of_lt S.F.ns.lt)) ha)
  refine h s.heap.objs.size oLg h₁.objs.size (s.toks + binds.length) (s.toks + binds.length + 1) _ hL ?_
  refine ⟨⟨?_, fun b o e => Heap.get?_push_of_some _ (hk₁ _ _ (S.F.keep b o e)), S.F.above⟩, ?_, ?_, ?_, ?_, S.os⟩
  · exact (S.F.ns.keeps hk₁).push _
  · intro p hp
    rcases List.mem_cons.mp hp with rfl | hp
    · exact ⟨Heap.get?_push_of_some _ eL, Nat.ne_of_gt S.F.ns.lt, bn _ (Nat.le_refl _)⟩
    · rcases List.mem_cons.mp hp with rfl | hp
      · refine ⟨?_, by rw [hsz]; exact Nat.ne_of_gt (Nat.lt_succ_of_lt S.F.ns.lt), bn _ (by rw [hsz]; exact Nat.le_succ _)⟩
        rw [← hg]
        exact Heap.get?_push_size _ rfl
      · exact ⟨Heap.get?_push_of_some _ (hk₁ _ _ (S.N p hp).1), (S.N p hp).2⟩
  · rw [List.map_cons, List.map_cons, List.nodup_cons, List.nodup_cons]
    refine ⟨fun hm => ?_, fun hm => ?_, S.nd⟩
    · rcases List.mem_cons.mp hm with e | hm
      · exact absurd (show s.heap.objs.size = h₁.objs.size from e) (by rw [hsz]; exact Nat.ne_of_lt (Nat.lt_succ_self _))
      · obtain ⟨p, hp, e⟩ := List.mem_map.mp hm
        have := S.lt hp
        rw [show p.1 = s.heap.objs.size from e] at this
        exact absurd this (Nat.lt_irrefl _)
    · obtain ⟨p, hp, e⟩ := List.mem_map.mp hm
      have := S.lt hp
      rw [show p.1 = h₁.objs.size from e, hsz] at this
      exact absurd this (Nat.not_lt.mpr (Nat.le_succ _))
  · show s.gens.push _ = _
    rw [S.gens]; rfl
  · exact AllBare.push S.bare rfl
end
end Mine
end
section
open PySem PySem.W PySem.Calls PyProof.Rows
set_option Elab.async false
set_option maxRecDepth 100000
set_option linter.unusedVariables false
namespace Mine
abbrev tupO (its : Array Value) : Obj := { cls := .type "tuple", data := .seq its }
/-- an object that is a set of texts -/
def SetO (prog : Program) (w : World) (o : Obj) (T : Str → Bool) (n : Nat) : Prop :=
  ∃ es ep t, o.ExactSet ∧ o.data = .set es ep t ∧ ElemsOf (strKind prog w) es.toList ∧ (∀ k, T k = true ↔ ∃ e ∈ es.toList, (strKind prog w).is k e.2 = true) ∧ es.size < scanBound ∧ t.fits es.size = true ∧ es.size = n
theorem SetO.heap {prog : Program} {w : World} {h : Heap} {a : Addr} {o : Obj} {T : Str → Bool} {n : Nat} (x : SetO prog w o T n) (e : h.get? a = some o) : h.SetOf (strKind prog w) a T n :=
  let ⟨es, ep, t, r1, r2, r3, r4, r5, r6, r7⟩ := x; ⟨o, es, ep, t, e, r1, r2, r3, r4, r5, r6, r7⟩
theorem setOf_o {prog : Program} {w : World} {h : Heap} {a : Addr} {T : Str → Bool} {n : Nat} (x : h.SetOf (strKind prog w) a T n) : ∃ o, h.get? a = some o ∧ SetO prog w o T n :=
  let ⟨o, es, ep, t, e, r1, r2, r3, r4, r5, r6, r7⟩ := x; ⟨o, e, es, ep, t, r1, r2, r3, r4, r5, r6, r7⟩
section
variable {prog : Program} {w : World} {A : Around} {E : Value → Shared → Prop} {s s' : Shared} {B : Heap} {os : OsState} {G : Array GenState} {L : Addr} {m : Str → Option Value} {news news' : List Cell} {K : Frag}
theorem St.ext (S : St B os G L m news s) {h' : Heap} {t : Nat} (hx : ∀ b o, s.heap.get? b = some o → h'.get? b = some o) : St B os G L m news { s with heap := h', toks := t } :=
  ⟨⟨S.F.ns.keeps hx, fun b o e => hx _ _ (S.F.keep b o e), S.F.above⟩, fun p hp => ⟨hx _ _ (S.N p hp).1, (S.N p hp).2⟩, S.nd, S.gens, S.bare, S.os⟩
theorem St.extB (S : St B os G L m news s) {h' : Heap} {t : Nat} (hx : Heap.ExtBut s.heap.objs.size s.heap h') : St B os G L m news { s with heap := h', toks := t } :=
  S.ext fun b o e => hx b o (Nat.ne_of_lt (Heap.lt_size e)) e
theorem St.tk (S : St B os G L m news s) {t : Nat} : St B os G L m news { s with toks := t } := S.ext fun _ _ e => e
theorem St.same (S : St B os G L m news s) {a : Addr} {o o' : Obj} (U : Up a o o' news news') {h' : Heap} {t : Nat} (hs : Heap.SameBut a s.heap h') (e : h'.get? a = some o') : St B os G L m news' { s with heap := h', toks := t } := by
  obtain ⟨pre, post, e1, e2, c, d⟩ := (U.upd S.nd).split
  have z := S.N _ U.mem
  have N := S.N
  rw [e1] at N
  refine S.to (s' := { s with heap := h', toks := t }) (S.F.change hs z.2.1 z.2.2) ?_ U.keys
  rw [e2]
  exact news_set N c d hs e
theorem tupS {vs : List Value} {Q : Value → Shared → Prop} (S : St B os G L m news s) (h : ∀ a s', St B os G L m ((a, tupO vs.toArray) :: news) s' → Q (.ref a) s') (hsz : vs.length ≤ sizeLine := by size_fits) : wpAny (model prog w) A (newTuple vs) Q E s :=
  newTuple_N S.F S.N (fun h' F' N' => h _ _ (S.cons (s' := { s with heap := h' }) F' N' fun _ hp => S.lt hp)) hsz
theorem listS {vs : List Value} {Q : Value → Shared → Prop} (S : St B os G L m news s) (h : ∀ a s', St B os G L m ((a, listOf vs.toArray 0) :: news) s' → Q (.ref a) s') (hsz : vs.length ≤ sizeLine := by size_fits) : wpAny (model prog w) A (newList vs) Q E s :=
  newList_N S.F S.N (fun h' F' N' => h _ _ (S.cons (s' := { s with heap := h' }) F' N' fun _ hp => S.lt hp)) hsz
theorem tup_is {h : Heap} {a : Addr} {its : Array Value} (e : h.get? a = some (tupO its)) : h.IsTuple a its := ⟨_, e, rfl, 0, rfl⟩
/-- two names taken out of a pair -/
theorem unpack2S {t : Addr} {v₁ v₂ : Value} {x₁ x₂ : Str} {p₁ p₂ pos : Pos} {k : Nat} {name : Str} {scope : Scope} {f : Addr} {cd : Value} {Q : Unit → Shared → Prop} (S : St B os G L m news s) (hh : A.handled = none) (ht : (t, tupO #[v₁, v₂]) ∈ news)
    (h : ∀ s', St B os G L (fun y => if y = x₂ then some v₂ else if y = x₁ then some v₁ else m y) news s' → Q () s')
    (hk : scope.kind = .function := by rfl) (hl₁ : (envOf name scope L f cd).kindOf x₁ = some .local := by rfl) (hl₂ : (envOf name scope L f cd).kindOf x₂ = some .local := by rfl) :
    wpAny (model prog w) A (assign (.Tuple [.Name x₁ p₁, .Name x₂ p₂] k pos) (envOf name scope L f cd) (.ref t)) Q E s := by
  refine wpAny_assign_Tuple hh (tup_is (S.get ht)) rfl rfl (fun h' hx => ?_)
  have S₁ := S.extB (t := s.toks) hx
  show wpAny _ _ (holding [v₂] (standAt p₁ >>= fun _ => bindName _ x₁ v₁) >>= fun _ => holding [] (standAt p₂ >>= fun _ => bindName _ x₂ v₂) >>= fun _ => pure ()) _ _ _
  refine wpAny_bind (wpAny_holding (wpAny_bind (wpAny_standAt (wpAny_bindName (stS S₁ (fun s₂ S₂ => ?_) hk hl₁)))))
  exact wpAny_bind (wpAny_holding (wpAny_bind (wpAny_standAt (wpAny_bindName (stS S₂ (fun s₃ S₃ => wpAny_pure (h _ S₃)) hk hl₂)))))
theorem setNewS {Q : Value → Shared → Prop} (S : St B os G L m news s) (h : ∀ a o s', SetO prog w o (fun _ => false) 0 → St B os G L m ((a, o) :: news) s' → Q (.ref a) s') : wpAny (model prog w) A (call (.type "set") []) Q E s :=
  newSet_N S.F S.N fun h' led F' N' => h _ _ _ ⟨#[], 0, _, ⟨rfl, rfl, rfl⟩, rfl, (fun e he => by simp at he), (fun k => by simp), (by decide), rfl, rfl⟩ (S.cons (s' := { s with heap := h' }) F' N' fun _ hp => S.lt hp)
theorem isStrOf_str (k : Str) (t : Tok) (prog : Program) (w : World) : (strKind prog w).is k (.str k t) = true := by
  show (k == k) = true
  simp
theorem notInS {a : Addr} {o : Obj} {T : Str → Bool} {n : Nat} {k : Str} {t : Tok} {Q : Value → Shared → Prop} (S : St B os G L m news s) (ha : (a, o) ∈ news) (ho : SetO prog w o T n) (h : ∀ s', St B os G L m news s' → Q (.bool (!T k)) s') :
    wpAny (model prog w) A (compareOp .NotIn (.str k t) (.ref a)) Q E s := wpAny_notInSet_of (isStrOf_str k t prog w) rfl (ho.heap (S.get ha)) (h _ S.tk)
theorem inS {a : Addr} {o : Obj} {T : Str → Bool} {n : Nat} {k : Str} {t : Tok} {Q : Value → Shared → Prop} (S : St B os G L m news s) (ha : (a, o) ∈ news) (ho : SetO prog w o T n) (h : ∀ s', St B os G L m news s' → Q (.bool (T k)) s') :
    wpAny (model prog w) A (compareOp .In (.str k t) (.ref a)) Q E s := wpAny_inSet_of (isStrOf_str k t prog w) rfl (ho.heap (S.get ha)) (h _ S.tk)
theorem addS {a : Addr} {o : Obj} {T : Str → Bool} {n : Nat} {k : Str} {t : Tok} {news' : Obj → List Cell} {Q : Value → Shared → Prop} (S : St B os G L m news s) (U : ∀ o', Up a o o' news (news' o')) (ho : SetO prog w o T n) (hn : n + 1 < scanBound)
    (h : ∀ o' s', SetO prog w o' (fun k' => T k' || decide (k' = k)) (if T k then n else n + 1) → St B os G L m (news' o') s' → Q .none s') : wpAny (model prog w) A (call (.builtin "set.add") [.ref a, .str k t]) Q E s := by
  refine call_set_add (isStrOf_str k t prog w) rfl (ho.heap (S.get (U o).mem)) hn (fun h' hs hS => ?_)
  obtain ⟨o', e, ho'⟩ := setOf_o hS
  exact h o' _ ho' (S.same (U o') hs e)

/-- what stands of the text's top -/
structure Cx (K : Frag) (B : Heap) : Prop where
  X : K.In B
  lim : B.NoLimit
  top : ∃ p loose mg mb, TopRead p loose mg mb B
theorem globS {M : Model} {a : Addr} {cn : Str} {cs : Scope} {ccd : Value} {x : Str} {pos : Pos} {v : Value} {Q : Value → Shared → Prop} (C : Cx K B) (S : St B os G L m news s) (e : nsIn K mainGlobals x = some (some v)) (h : Q v s)
    (hk : cs.kind = .function := by rfl) (hx : (envOf cn cs L a ccd).kindOf x = some .globalImplicit := by rfl) (hd : (x == ("__debug__" : Str)) = false := by decide) :
    wpAny M A (eval (.Name x pos) (envOf cn cs L a ccd)) Q E s :=
  let ⟨_, _, _, _, T⟩ := C.top; name_K S.F C.X T e h hk hx hd
theorem bltS {M : Model} {a : Addr} {cn : Str} {cs : Scope} {ccd : Value} {x : Str} {pos : Pos} {v : Value} {Q : Value → Shared → Prop} (C : Cx K B) (S : St B os G L m news s) (e : nsIn K mainGlobals x = some none) (hv : bootBuiltins x = some v) (hn : x ≠ "__name__") (h : Q v s)
    (hk : cs.kind = .function := by rfl) (hx : (envOf cn cs L a ccd).kindOf x = some .globalImplicit := by rfl) (hd : (x == ("__debug__" : Str)) = false := by decide) :
    wpAny M A (eval (.Name x pos) (envOf cn cs L a ccd)) Q E s :=
  let ⟨_, _, _, _, T⟩ := C.top; name_B S.F C.X T e hv hn h hk hx hd
end
end Mine
end
section
open PySem PySem.W PySem.Calls PyProof.Rows PySem.Builtin.Str
set_option linter.unusedVariables false
namespace Mine
theorem clipN (len : Nat) (i : Int) (h : 0 ≤ i) : ((max 0 (min i (len : Int))).toNat : Int) = max 0 (min i (len : Int)) := by omega
/-- a slice of a text, as a text with the signs of a part -/
theorem slice_post {x : Str} {t : Tok} {l u : Option (Int × Tok)} {a b : Nat} {Q : Value → Shared → Prop} {s : Shared} (e : slicePicked x l u none = (List.range (b - a)).map (fun k => a + k)) (hab : a ≤ b) (hb : b ≤ x.length) (hsz : x.length ≤ sizeLine)
    (hQ : ∀ y t' tk, y.cps.toList = (x.cps.toList.drop a).take (b - a) → Q (.str y t') { s with toks := tk }) : (sliceMade x t l u none).post Q s := by
  have hp : (slicePicked x l u none).filterMap (x.cps[·]?) = (x.cps.toList.drop a).take (b - a) := by
    rw [e]
    have h := StrLaws.picks x.cps.toList (b - a) a (by simp [Str.length] at hb ⊢; omega)
    simpa using h
  unfold sliceMade
  split
  · rename_i q
    have hl : (slicePicked x l u none).length = x.length := by
      have := (Bool.and_eq_true_iff.mp q).2
      exact beq_iff_eq.mp this
    rw [e, List.length_map, List.length_range] at hl
    have ha : a = 0 := by omega
    have hb' : b = x.length := by omega
    refine hQ x t s.toks ?_
    rw [ha, hb', List.drop_zero, Nat.sub_zero]
    have : x.length = x.cps.toList.length := by simp [Str.length]
    rw [this, List.take_length]
  · refine ⟨?_, hQ _ _ _ (by rw [hp])⟩
    rw [hp]
    have : ((x.cps.toList.drop a).take (b - a)).length ≤ x.length := by
      simp [Str.length]; omega
    exact Nat.le_trans (by simpa [Str.length] using this) hsz
theorem pick_to1 (x : Str) (u : Tok) : slicePicked x none (some (1, u)) none = (List.range (min 1 x.length - 0)).map (fun k => 0 + k) := by
  show strSliceIndices none (some 1) 1 x.length = _
  generalize x.length = n
  cases n with
  | zero => decide
  | succ n =>
    have h : min 1 (n + 1) - 0 = 1 := by omega
    rw [h]
    unfold strSliceIndices
    have e : (max 0 (min (1 : Int) ((n + 1 : Nat) : Int))) = 1 := by omega
    simp only [show ¬ ((1 : Int) < 0) by decide, if_false, show (1 : Int) > 0 by decide, if_true, e]
    decide
section
variable {prog : Program} {w : World} {A : Around} {E : Value → Shared → Prop} {s s' : Shared} {B : Heap} {os : OsState} {G : Array GenState} {L : Addr} {m : Str → Option Value} {news news' : List Cell}
/-- the test «x[:1] == c» of a name x that holds a text -/
theorem headTest {x v c : Str} {t₀ : Tok} {p1 p2 p3 p4 p5 p6 : Pos} {k1 k2 : Nat} {name : Str} {scope : Scope} {f : Addr} {cd : Value} {whole : Sem Value} {Q : Bool → Shared → Prop} (S : St B os G L m news s) (hm : m x = some (.str v t₀)) (hsz : v.length ≤ sizeLine)
    (h : ∀ s', St B os G L m news s' → Q (v.cps.toList.take 1 == c.cps.toList) s')
    (hk : scope.kind = .function := by rfl) (hl : (envOf name scope L f cd).kindOf x = some .local := by rfl) (hd : (x == ("__debug__" : Str)) = false := by decide) :
    wpAny (model prog w) A (isTrue (.Compare (.Subscript (.Name x p1) (.Slice none (some (.Constant (.int 1) k1 p2)) none p3) p4) [.Eq] [.Constant (.str c) k2 p5] p6) (envOf name scope L f cd) whole) Q E s := by
  refine wpAny_isTrue_Compare1 ?_
  refine wpAny_Subscript_str_slice (ld S.F hm ?_ hk hl hd)
  rw [evalPart_none]
  refine wpAny_pure ?_
  rw [evalPart_some]
  refine wpAny_Constant_int ?_
  refine ⟨v, t₀, none, some (1, _), rfl, rfl, rfl, ?_⟩
  refine slice_post (pick_to1 v _) (Nat.zero_le _) (Nat.min_le_right _ _) hsz (fun y t' tk hy => ?_)
  refine wpAny_Constant_str (PySem.P.eq_str (wpAny_truthy_bool ?_))
  rw [hy, List.drop_zero, Nat.sub_zero]
  have e : v.cps.toList.take (min 1 v.length) = v.cps.toList.take 1 := by
    have : v.length = v.cps.toList.length := by simp [Str.length]
    rw [this]
    cases v.cps.toList with
    | nil => rfl
    | cons c r => simp
  rw [e]
  exact h _ (S.ext fun b o q => Heap.get?_push_of_some _ q)
theorem GenAt.of_push {oLg : Obj} {m' : Str → Option Value} {qual : Str} {scope : Scope} {f Lg st : Addr} {li : List Lv} {cd : Value} {p1 p2 p3 p4 p5 p6 p7 p8 p9 p10 : Pos}
    (S : St B os (G.push (.fresh (.func (nsBody p1 p2 p3 p4 p5 p6 p7 p8 p9 p10) (envOf qual scope Lg f cd)))) L m news s) (h1 : NsO oLg m') (h2 : m' (Str.ofString "_reversed") = some (.type "reversed")) (h3 : m' (Str.ofString "ns_stack") = some (.ref st))
    (hk : scope.kind = .function := by rfl) (l1 : (envOf qual scope Lg f cd).kindOf (Str.ofString "namespaces") = some .local := by rfl) (l2 : (envOf qual scope Lg f cd).kindOf (Str.ofString "_reversed") = some .local := by rfl) (l3 : (envOf qual scope Lg f cd).kindOf (Str.ofString "ns_stack") = some .local := by rfl) :
    GenAt prog w A Lg st li G.size (outs li) [(Lg, oLg)] (G.push (.fresh (.func (nsBody p1 p2 p3 p4 p5 p6 p7 p8 p9 p10) (envOf qual scope Lg f cd)))) :=
  .fresh h1 h2 h3 hk l1 l2 l3 (by rw [Array.getElem?_push, if_pos rfl])
/-- the items of the lists are pairs of texts -/
inductive Pairs (news : List Cell) : List Value → List (Str × Str) → Prop
  | nil : Pairs news [] []
  | cons {a : Addr} {u p : Str} {t1 t2 : Tok} {xs : List Value} {ps : List (Str × Str)} : (a, tupO #[.str u t1, .str p t2]) ∈ news → Pairs news xs ps → Pairs news (.ref a :: xs) ((u, p) :: ps)
theorem Pairs.mono {news news' : List Cell} {xs : List Value} {ps : List (Str × Str)} (x : Pairs news xs ps) (h : ∀ p ∈ news, p ∈ news') : Pairs news' xs ps := by
  induction x with
  | nil => exact .nil
  | cons a _ ih => exact .cons (h _ a) ih
theorem owned_gen {target : Expr} {ga : Addr} {oga : Obj} {v : Value} {Q : Unit → Shared → Prop} (S : St B os G L m news s) (h : (ga, oga) ∈ news) (hc : oga.cls = .type "generator") (hq : Q () s) : wpAny (model prog w) A (letOwnedTupleGo target (.ref ga) v) Q E s := by
  have key : wpAny (model prog w) A (do
      let (.ref r, .ref a) := (Value.ref ga, v) | return
      let o ← load r
      match o.cls, o.data with
      | .type n, .fields vs =>
        if ["enumerate", "zip", "dict_itemiterator", "dict_reverseitemiterator", "odict_iterator", "itertools.zip_longest", "itertools.pairwise"].contains n && vs[0]? == some (rawInt a) then
          rule "for.unpacks-the-owned-tuple"
          updateField r 0 .none
      | _, _ => pure ()) Q E s := by
    cases v with
    | ref a =>
      refine wpAny_bind (wpAny_load (S.get h) ?_)
      rw [hc]
      cases oga.data with
      | fields vs =>
        dsimp only
        rw [show ((["enumerate", "zip", "dict_itemiterator", "dict_reverseitemiterator", "odict_iterator", "itertools.zip_longest", "itertools.pairwise"] : List String).contains "generator") = false from by decide, Bool.false_and, if_neg (by decide)]
        exact wpAny_pure hq
      | _ => exact wpAny_pure hq
    | _ => exact wpAny_pure hq
  unfold letOwnedTupleGo
  cases target <;> first | exact key | exact wpAny_pure hq
end
end Mine
end
section
open PySem PySem.W PySem.Calls PyProof.Rows
set_option Elab.async false
set_option maxRecDepth 100000
set_option linter.unusedVariables false
namespace Mine
section
variable {prog : Program} {w : World} {A : Around} {E : Value → Shared → Prop} {s s' : Shared} {B : Heap} {os : OsState} {G : Array GenState} {L : Addr} {m : Str → Option Value} {news news' rest : List Cell} {env : Env}
theorem methodCall_S {o : Expr} {name : Str} {apos pos : Pos} {args : List Expr} {Q : Value → Shared → Prop} (hbase : attributeBase o name env (eval o env) = eval o env) (hfew : methodCallForm (args.length + ([] : List Keyword).length) (backTo pos (starEach args env)) (backToKw pos (keywordEach [] env)) = true)
    (hline : (apos.endLine == pos.line) = true)
    (h : wpAny (model prog w) A (eval o env) (fun ov s₁ => ∀ pl, wpAny (model prog w) A (getMethod ov name pl) (fun fx s₂ => wpAny (model prog w) A (callWith pos fx.1 fx.2 (backTo pos (starEach args env)) []) Q E s₂) E s₁) E s) :
    wpAny (model prog w) A (eval (.Call (.Attribute o name apos) args [] pos) env) Q E s := by
  rw [arm_eval_Call, hbase]
  refine wpAny_bind (wpAny_mono h (fun ov s₁ h₁ => ?_) fun _ _ e => e)
  refine wpAny_bind (wpAny_standAt ?_)
  have hpos : methodCallPos true o env apos pos = pure pos := by unfold methodCallPos; simp [hline]
  unfold methodCall
  rw [hfew]
  refine wpAny_bind (wpAny_holding (wpAny_mono (h₁ _) (fun fx s₂ h₂ => ?_) fun _ _ e => e))
  exact wpAny_bind (wpAny_of_eq hpos h₂)
theorem if_false' {c : Bool} {α : Sort _} {a b : α} (h : c = false) : (if c = true then a else b) = b := if_neg (by rw [h]; decide)

/-- the first loop of _qname where no pair has the uri -/
theorem qloop_none {R : Result → Shared → Prop} {qual : Str} {scope : Scope} {f Lg st ga ps : Addr} {cd : Value} {li : List Lv} {g : Nat} {oga ops : Obj} {nm qn : Value} {xs : List Value} {gc : List Cell} {pp : List (Str × Str)} {T : Str → Bool} {k : Nat} {uri : Str} {tu : Tok}
    {q1 q2 q3 q4 q5 q6 q7 q8 q9 q10 q11 q12 q13 : Pos} {kt : Nat} {c2 : Expr} {rs : List Stmt}
    (hh : A.handled = none) (hlim : B.NoLimit) (hroom : A.depth < recursionLimit) (S : St B os G L m (gc ++ ((ga, oga) :: (ps, ops) :: rest)) s) (hc : oga.cls = .type "generator") (hd : oga.data = .fields #[.int g 0, nm, qn]) (hsl : oga.slots = #[])
    (stk : StkL st li rest) (hsz : ∀ p ∈ li, (p.2.size : Int) < 2 ^ 63) (GA : GenAt prog w A.in1 Lg st li g xs gc G) (hops : SetO prog w ops T k) (hk : k + xs.length + 1 < scanBound) (hpp : Pairs rest xs pp) (hne : ∀ p ∈ pp, p.1 ≠ uri)
    (m1 : m (Str.ofString "uri") = some (.str uri tu)) (m2 : m (Str.ofString "prefixes_seen") = some (.ref ps))
    (fin : ∀ G' m' ops' T' k' s', St B os G' L m' ((ga, oga) :: (ps, ops') :: rest) s' → SetO prog w ops' T' k' → (∀ y, T' y = true → T y = true ∨ ∃ p ∈ pp, p.2 = y) → (∀ y, y ≠ Str.ofString "u" → y ≠ Str.ofString "prefix" → m' y = m y) → R (.ok .next) s')
    (hkd : scope.kind = .function) (l1 : (envOf qual scope L f cd).kindOf (Str.ofString "u") = some .local) (l2 : (envOf qual scope L f cd).kindOf (Str.ofString "prefix") = some .local) (l3 : (envOf qual scope L f cd).kindOf (Str.ofString "uri") = some .local) (l4 : (envOf qual scope L f cd).kindOf (Str.ofString "prefixes_seen") = some .local)
    (hline : (q10.endLine == q12.line) = true) :
    codeAny (model prog w) A (.forLoop (.Tuple [.Name (Str.ofString "u") q1, .Name (Str.ofString "prefix") q2] kt q3) (.ref ga)
      [.If (.BoolOp .And [.Compare (.Name (Str.ofString "u") q4) [.Eq] [.Name (Str.ofString "uri") q5] q6, c2] q7) rs [] q8,
       .Expr (.Call (.Attribute (.Name (Str.ofString "prefixes_seen") q9) (Str.ofString "add") q10) [.Name (Str.ofString "prefix") q11] [] q12) q13] [] (envOf qual scope L f cd)) R s := by
  refine codeAny_forLoop_any (fun n s => ∃ xs gc G' m' ops' T' k' pp', n = xs.length ∧ GenAt prog w A.in1 Lg st li g xs gc G' ∧ St B os G' L m' (gc ++ ((ga, oga) :: (ps, ops') :: rest)) s ∧ SetO prog w ops' T' k' ∧ k' + xs.length + 1 < scanBound ∧ Pairs rest xs pp' ∧
      (∀ p ∈ pp', p ∈ pp) ∧ (∀ y, T' y = true → T y = true ∨ ∃ p ∈ pp, p.2 = y) ∧ (∀ y, y ≠ Str.ofString "u" → y ≠ Str.ofString "prefix" → m' y = m y)) ?_ xs.length
    ⟨xs, gc, G, m, ops, T, k, pp, rfl, GA, S, hops, hk, hpp, fun _ h => h, fun _ h => .inl h, fun _ _ _ => rfl⟩
  rintro n s ⟨xs, gc, G, m', ops', T', k', pp', rfl, GA, S, hops, hk, hpp, hsub, hT, hm⟩
  refine next_ns hh hlim hroom S (List.Mem.head _) hc hd hsl (stk.mono fun p hp => .tail _ (.tail _ hp)) hsz GA ?_ ?_
  · intro _ G' s' S'
    exact wpAny_execs_nil (fin G' m' ops' T' k' s' S' hops hT hm)
  · rintro v xs' gc' G' s' rfl GA' S'
    cases hpp with
    | @cons a u p t1 t2 _ pr hmem hrest =>
      have hmem' : (a, tupO #[.str u t1, .str p t2]) ∈ gc' ++ ((ga, oga) :: (ps, ops') :: rest) := List.mem_append.mpr (.inr (.tail _ (.tail _ hmem)))
      refine owned_gen S' (List.mem_append.mpr (.inr (.head _))) hc ?_
      refine unpack2S S' hh hmem' (fun s S => ?_) hkd l1 l2
      refine wpAny_execs_cons (wpAny_If (wpAny_isTrue_BoolOp (wpAny_allTrue_And_cons ?_)))
      refine wpAny_isTrue_Compare1 (ld S.F (v := .str u t1) (by rfl) ?_ hkd l1) (by rfl)
      have hu : m' (Str.ofString "uri") = some (.str uri tu) := (hm _ (by decide) (by decide)).trans m1
      have hp' : m' (Str.ofString "prefixes_seen") = some (.ref ps) := (hm _ (by decide) (by decide)).trans m2
      refine ld S.F (v := .str uri tu) (by show (if _ then _ else if _ then _ else _) = _; rw [if_neg (by decide), if_neg (by decide)]; exact hu) ?_ hkd l3
      refine PySem.P.eq_str (wpAny_truthy_bool ?_)
      have hneq : (u.cps.toList == uri.cps.toList) = false := by
        have := hne (u, p) (hsub _ (.head _))
        apply Bool.eq_false_iff.mpr
        intro e
        apply this
        have e' := beq_iff_eq.mp e
        cases u; cases uri
        exact congrArg Str.mk (Array.toList_inj.mp e')
      rw [if_false' hneq]
      rw [if_false' rfl]
      refine wpAny_execs_nil ?_
      refine wpAny_execs_cons (wpAny_Expr_any ?_ (by show (scope.kind == .module && (scope.more.any _)) = false; rw [hkd]; rfl) (by rfl))
      refine methodCall_S rfl rfl hline (ld S.F (v := .ref ps) (by show (if _ then _ else if _ then _ else _) = _; rw [if_neg (by decide), if_neg (by decide)]; exact hp') ?_ hkd l4)
      intro pl
      refine getMethod_set_add (hops.heap (S.get (List.mem_append.mpr (.inr (.tail _ (.head _)))))) ?_
      refine callWith_method1 ?_ rfl
      refine spliced_more (ld S.F (v := .str p t2) (by rfl) ?_ hkd l2) rfl
      refine spliced_none ?_
      refine addS (news' := fun o' => gc' ++ ((ga, oga) :: (ps, o') :: rest)) S (fun o' => (Up.tail .head).pre gc') hops (by simp at hk; omega) (fun o' s hops' S => ?_)
      refine wpAny_execs_nil ⟨xs'.length, by simp, xs', gc', G', _, o', _, _, pr, rfl, GA', S, hops', ?_, hrest, fun q hq => hsub q (.tail _ hq), ?_, ?_⟩
      · simp only [List.length_cons] at hk
        split <;> omega
      · intro y hy
        rcases Bool.or_eq_true_iff.mp hy with h | h
        · exact hT y h
        · exact .inr ⟨(u, p), hsub _ (.head _), (of_decide_eq_true h).symm⟩
      · intro y h1 h2
        show (if _ then _ else if _ then _ else _) = _
        rw [if_neg h2, if_neg h1]
        exact hm y h1 h2
end
end Mine
end
section
open PySem PySem.W PySem.Calls PyProof.Rows
set_option Elab.async false
set_option maxRecDepth 100000
set_option linter.unusedVariables false
namespace Mine
theorem slot_md_get : Slot "method_descriptor" "__get__" "method_descriptor.__get__" :=
  .of (owner := "method_descriptor") (n := "__get__") (by rw [typeLookup_type, builtinLookup_eq_fast]; kernel_rfl) (by decide +kernel) (by decide +kernel) (by decide +kernel)
    (by first | exact .inl (by decide +kernel) | exact .inr (by decide +kernel)) (by rw [isSubtype_type]; kernel_rfl)
theorem entry_md_get : entryFor table "method_descriptor.__get__" = some Builtin.«method_descriptor.__get__» := entryFor_of_tree (by kernel_rfl)
theorem args_md_get (a b c : Value) : argsOk "method_descriptor.__get__" ⟨[a, b, c], []⟩ := by unfold argsOk; kernel_rfl
theorem lk_list_append : typeLookup (.type "list") "append" = pure (some (.builtin "list.append")) := by rw [typeLookup_type, builtinLookup_eq_fast]; kernel_rfl
theorem lk_md_set : typeLookup (.type "method_descriptor") "__set__" = pure none := by rw [typeLookup_type, builtinLookup_eq_fast]; kernel_rfl
theorem lk_md_del : typeLookup (.type "method_descriptor") "__delete__" = pure none := by rw [typeLookup_type, builtinLookup_eq_fast]; kernel_rfl
theorem owner_list_append : (".".intercalate ("list.append".cutAt '.').dropLast) = "list" := by
  have e0 : "list.append".cutAt '.' = ["list", "append"] := by first | rfl | decide +kernel
  rw [e0]; decide +kernel
theorem sub_list_append : isSubtype (.type "list") (.type (".".intercalate ("list.append".cutAt '.').dropLast)) = pure true := by
  rw [owner_list_append, isSubtype_type]; kernel_rfl
abbrev bmO (l : Addr) : Obj := { cls := .type "builtin_function_or_method", data := .fields #[.builtin "list.append", .ref l] }
section
variable {prog : Program} {w : World} {A : Around} {E : Value → Shared → Prop} {h : Heap} {g : Array GenState} {d : Drawn} {t : Nat} {os : OsState} {a : Addr} {o : Obj}
theorem append_get {R : Result → Shared → Prop} (hx : h.get? a = some o) (hc : o.cls = .type "list") (hq : R (.ok (.ret (.ref h.objs.size))) ⟨h.push (bmO a), g, d, t, os⟩) :
    codeAny (model prog w) A (.call (.builtin "method_descriptor.__get__") ⟨[.builtin "list.append", .ref a, .type "list"], []⟩) R ⟨h, g, d, t, os⟩ := by
  have hT : (⟨h, g, d, t, os⟩ : Shared).TypeIs (.ref a) "list" := ⟨_, hx, hc⟩
  have hT5 : (⟨h, g, d, t, os⟩ : Shared).TypeIs (.builtin "list.append") "method_descriptor" := PySem.F.type_list_append
  have f8 := sub_list_append
  refine codeAny_call_builtin slot_md_get.plain entry_md_get (slot_md_get.check _ _ _ _ _ _ _ _ hT5 (args_md_get _ _ _) ?_)
  repeat (any_goals (first | assumption | wp_step))

theorem append_entry {tk : Tok} {its : Array Value} {n : Nat} {Q : Fin → Shared → Prop} (hx : h.get? a = some (listOf its n)) (hq : Q (.done (.ret (.ref h.objs.size))) ⟨h.push (bmO a), g, d, t, os⟩) :
    wpAny (model prog w) A (Builtin.«object.__getattribute__» ⟨[.ref a, .str "append" tk], []⟩) Q E ⟨h, g, d, t, os⟩ := by
  have hT : (⟨h, g, d, t, os⟩ : Shared).TypeIs (.ref a) "list" := ⟨_, hx, rfl⟩
  have hT5 : (⟨h, g, d, t, os⟩ : Shared).TypeIs (.builtin "list.append") "method_descriptor" := PySem.F.type_list_append
  have f4 := lk_list_append
  have f5 := PySem.F.type_list_append
  have f6 := slot_md_get.lookup
  have f7 := lk_md_set
  have f8 := lk_md_del
  repeat (any_goals (first | assumption | wp_step))
  refine append_get hx rfl ?_
  repeat (any_goals (first | assumption | wp_step))
theorem append_call {tk : Tok} {its : Array Value} {n : Nat} {R : Result → Shared → Prop} (hx : h.get? a = some (listOf its n)) (hq : R (.ok (.ret (.ref h.objs.size))) ⟨h.push (bmO a), g, d, t, os⟩) :
    codeAny (model prog w) A (.call (.builtin "list.__getattribute__") ⟨[.ref a, .str "append" tk], []⟩) R ⟨h, g, d, t, os⟩ :=
  codeAny_call_builtin PySem.F.slot_list_getattribute.plain PySem.F.entry_list_ga (PySem.F.slot_list_getattribute.check _ _ _ _ _ _ _ _ (show (⟨h, g, d, t, os⟩ : Shared).TypeIs (.ref a) "list" from ⟨_, hx, rfl⟩) (PySem.F.args_list_getattribute_2 _ _) (append_entry hx hq))
theorem append_attr {its : Array Value} {n : Nat} {Q : Value → Shared → Prop} (hx : h.get? a = some (listOf its n)) (hq : Q (.ref h.objs.size) ⟨h.push (bmO a), g, d, t + 1, os⟩) :
    wpAny (model prog w) A (getAttr (.ref a) "append" true) Q E ⟨h, g, d, t, os⟩ := by
  have hT : (⟨h, g, d, t + 1, os⟩ : Shared).TypeIs (.ref a) "list" := ⟨_, hx, rfl⟩
  have f2 := PySem.F.slot_list_getattribute.lookup
  have f3 := PySem.F.slot_list_getattribute.bind (.ref a)
  unfold getAttr
  repeat (any_goals (first | assumption | wp_step))
  refine append_call hx ?_
  repeat (any_goals (first | assumption | wp_step))
end
end Mine
end
section
open PySem PySem.W PySem.Calls PyProof.Rows
set_option Elab.async false
set_option maxRecDepth 100000
set_option linter.unusedVariables false
namespace Mine
section
variable {prog : Program} {w : World} {A : Around} {E : Value → Shared → Prop} {s s' : Shared} {B : Heap} {os : OsState} {G : Array GenState} {L : Addr} {m : Str → Option Value} {news news' : List Cell} {K : Frag}
/-- the method append as a value -/
theorem appendAttrS {D : Addr} {its : Array Value} {n : Nat} {Q : Value → Shared → Prop} (S : St B os G L m news s) (hl : (D, listOf its n) ∈ news)
    (h : ∀ b s', St B os G L m ((b, bmO D) :: news) s' → Q (.ref b) s') : wpAny (model prog w) A (getAttr (.ref D) "append" true) Q E s := by
  obtain ⟨hp, g, d, t, o⟩ := s
  refine append_attr (S.get hl) (h _ _ ?_)
  exact S.push (t := t + 1) (bmO D)
/-- the object of a call that is a builtin bound to an object -/
theorem callWith_bm {pos : Pos} {u : Addr} {fs : Array Value} {first : List Value} {args : List (Bool × Sem Value)} {Q : Value → Shared → Prop} (hplain : args.any (·.1) = false)
    (h : wpAny (model prog w) A (evalArgs (.ref u) true args []) (fun x s₁ => s₁.heap.get? u = some { cls := .type "builtin_function_or_method", data := .fields fs } ∧ wpAny (model prog w) A (call (.ref u) (first ++ x.pos) x.kw) Q E s₁) E s) : wpAny (model prog w) A (callWith pos (.ref u) first args []) Q E s := by
  unfold callWith
  refine wpAny_bind (wpAny_holding (wpAny_mono h (fun x s₁ h₁ => wpAny_bind (wpAny_standAt ?_)) fun _ _ x => x))
  obtain ⟨ho, hcall⟩ := h₁
  simp only [hplain, List.any_nil, Bool.or_false]
  refine wpAny_bind (m := keeperOf (.ref u)) ?_
  unfold keeperOf
  refine wpAny_bind (wpAny_load ho ?_)
  simp only [show (Value.type "builtin_function_or_method" != Value.type "method") = true by decide, show (Value.type "builtin_function_or_method" == Value.type "builtin_function_or_method" || Value.type "builtin_function_or_method" == Value.type "method-wrapper") = true by decide, if_true]
  refine wpAny_pure ?_
  exact wpAny_bind (wpAny_mono hcall (fun r s₂ hr => wpAny_bind (wpAny_holding (wpAny_point (wpAny_pure hr)))) fun _ _ x => x)
theorem callWith_bmS {pos : Pos} {u : Addr} {fs : Array Value} {first : List Value} {env : Env} {e : Expr} {rest : List Expr} {Q : Value → Shared → Prop}
    (h : wpAny (model prog w) A (spliced (backTo pos (starEach (e :: rest) env))) (fun vs s₁ => s₁.heap.get? u = some { cls := .type "builtin_function_or_method", data := .fields fs } ∧ wpAny (model prog w) A (call (.ref u) (first ++ vs)) Q E s₁) E s)
    (he : starEach (e :: rest) env = (false, eval e env) :: starEach rest env := by rfl) (hplain : (backTo pos (starEach rest env)).any (·.1) = false := by rfl) :
    wpAny (model prog w) A (callWith pos (.ref u) first (backTo pos (starEach (e :: rest) env)) []) Q E s := by
  rw [he] at h ⊢
  refine callWith_bm (fs := fs) (by show (false || (backTo pos (starEach rest env)).any (·.1)) = false; rw [hplain]; rfl) ?_
  exact evalArgs_plain h
theorem sub_list_module : isSubtype (.type "list") (.type "module") = pure false := by rw [isSubtype_type]; kernel_rfl
theorem bmCallS {b D : Addr} {its : Array Value} {n : Nat} {v : Value} {Q : Value → Shared → Prop} (S : St B os G L m news s) (hb : (b, bmO D) ∈ news) (U : Up D (listOf its n) (listOf (its.push v) (n + 1)) news news')
    (h : ∀ s', St B os G L m news' s' → Q .none s') (hsz : its.size ≤ sizeLine := by size_fits) : wpAny (model prog w) A (call (.ref b) [v]) Q E s := by
  have hb' := S.get hb
  have hD := S.get U.mem
  refine wpAny_call (codeAny_of_tree ?_)
  show wpAny _ A.in1 (callAny (.ref b) ⟨[v], []⟩) _ _ s
  simp only [callAny]
  refine wpAny_bind (wpAny_load hb' ?_)
  simp only [show (Value.type "builtin_function_or_method" == Value.type "method" || Value.type "builtin_function_or_method" == Value.type "builtin_function_or_method" || Value.type "builtin_function_or_method" == Value.type "method-wrapper") = true by decide, if_true]
  refine KFB.if_so (by decide) ?_
  have hT : s.TypeIs (.ref D) "list" := ⟨_, hD, rfl⟩
  have f1 := sub_list_module
  show wpAny _ _ (checkBoundCall "list.append" ⟨[.ref D, v], []⟩ >>= fun _ => again (.builtin "list.append" ⟨[.ref D, v], []⟩)) _ _ _
  refine wpAny_bind ?_
  repeat (any_goals (first | assumption | wp_step))
  refine ⟨Code.quiet_builtin _ (by decide +kernel), codeAny_builtin entry_list_append ?_⟩
  show wpAny _ _ (updateSeq D (·.push v) >>= fun _ => ret .none) _ _ _
  refine wpAny_bind (wpAny_updateSeq hD rfl (wpAny_pure ?_) hsz)
  exact h _ (S.same (t := s.toks) U (Heap.SameBut.update ..) (by rw [Heap.get?_update_self _ hD (by rw [mapSeq_push]; rfl), mapSeq_push]))
end
end Mine
end
section
open PySem PySem.W PySem.Calls PyProof.Rows
set_option Elab.async false
set_option maxRecDepth 100000
set_option linter.unusedVariables false
namespace Mine
abbrev bjO (sep : Str) (t : Tok) : Obj := { cls := .type "builtin_function_or_method", data := .fields #[.builtin "str.join", .str sep t] }
/-- a value that is no text -/
inductive NoTxt (news : List Cell) : Value → Prop
  | none : NoTxt news .none
  | int {i t} : NoTxt news (.int i t)
  | bool {b} : NoTxt news (.bool b)
  | bytes {b t} : NoTxt news (.bytes b t)
  | list {a its n} : (a, listOf its n) ∈ news → NoTxt news (.ref a)
  | tup {a its} : (a, tupO its) ∈ news → NoTxt news (.ref a)
theorem NoTxt.mono {news news' : List Cell} {v : Value} (h : NoTxt news v) (hs : ∀ p ∈ news, p ∈ news') : NoTxt news' v := by
  cases h with
  | none => exact .none
  | int => exact .int
  | bool => exact .bool
  | bytes => exact .bytes
  | list x => exact .list (hs _ x)
  | tup x => exact .tup (hs _ x)
theorem sub_str_module : isSubtype (.type "str") (.type "module") = pure false := by rw [isSubtype_type]; kernel_rfl
section
variable {prog : Program} {w : World} {A : Around} {E : Value → Shared → Prop} {s s' : Shared} {B : Heap} {os : OsState} {G : Array GenState} {L : Addr} {m : Str → Option Value} {news news' : List Cell} {K : Frag}
theorem bjCall {b D : Addr} {sep : Str} {t : Tok} {Q : Value → Shared → Prop} (hb' : s.heap.get? b = some (bjO sep t))
    (h : codeAny (model prog w) A (.builtin "str.join" ⟨[.str sep t, .ref D], []⟩) (wants Q E) s) : wpAny (model prog w) A (call (.ref b) [.ref D]) Q E s := by
  refine wpAny_call (codeAny_of_tree ?_)
  show wpAny _ A.in1 (callAny (.ref b) ⟨[.ref D], []⟩) _ _ s
  simp only [callAny]
  refine wpAny_bind (wpAny_load hb' ?_)
  simp only [show (Value.type "builtin_function_or_method" == Value.type "method" || Value.type "builtin_function_or_method" == Value.type "builtin_function_or_method" || Value.type "builtin_function_or_method" == Value.type "method-wrapper") = true by decide, if_true]
  refine KFB.if_so (by decide) ?_
  show wpAny _ _ (checkBoundCall "str.join" ⟨[.str sep t, .ref D], []⟩ >>= fun _ => again (.builtin "str.join" ⟨[.str sep t, .ref D], []⟩)) _ _ _
  refine wpAny_bind ?_
  have f1 := sub_str_module
  repeat (any_goals (first | assumption | wp_step))
  exact ⟨Code.quiet_builtin _ (by decide +kernel), h⟩
theorem joinS {b D : Addr} {sep : Str} {t : Tok} {l : List (Str × Tok)} {n : Nat} {Q : Value → Shared → Prop} (S : St B os G L m news s) (hb' : s.heap.get? b = some (bjO sep t)) (hD : (D, listOf (strValues l).toArray n) ∈ news)
    (hok : JoinOk sep (l.map (·.1)) = true) (h : ∀ t' s', St B os G L m news s' → Q (.str (Txt.join sep (l.map (·.1))) t') s') : wpAny (model prog w) A (call (.ref b) [.ref D]) Q E s := by
  refine bjCall hb' (codeAny_builtin PySem.F.entry_str_join ?_)
  refine meets_str_join_list sep t D l (by simpa [JoinOk] using hok) prog w A (wants Q E) s ⟨⟨_, S.get hD, rfl, n, rfl⟩, ?_⟩
  exact post_join l ⟨joinOk_length hok, fun t' k => h _ _ S.tk⟩
theorem typeName_ok {v : Value} (hv : NoTxt news v) (S : St B os G L m news s) : ∃ nm : String, nm.length ≤ 8 ∧ ∀ {A : Around} {E : Value → Shared → Prop} {Q : String → Shared → Prop}, Q nm s → wpAny (model prog w) A (PySem.typeNameOf v) Q E s := by
  cases hv with
  | none => exact ⟨"NoneType", by decide, fun h => wpAny_of_eq (by kernel_rfl) h⟩
  | int => exact ⟨"int", by decide, fun h => wpAny_of_eq (by kernel_rfl) h⟩
  | bool => exact ⟨"bool", by decide, fun h => wpAny_of_eq (by kernel_rfl) h⟩
  | bytes => exact ⟨"bytes", by decide, fun h => wpAny_of_eq (by kernel_rfl) h⟩
  | @list a its n x =>
    refine ⟨"list", by decide, fun h => ?_⟩
    have hT : s.TypeIs (.ref a) "list" := ⟨_, S.get x, rfl⟩
    unfold PySem.typeNameOf shownTypeOf
    repeat (any_goals (first | assumption | wp_step))
  | @tup a its x =>
    refine ⟨"tuple", by decide, fun h => ?_⟩
    have hT : s.TypeIs (.ref a) "tuple" := ⟨_, S.get x, rfl⟩
    unfold PySem.typeNameOf shownTypeOf
    repeat (any_goals (first | assumption | wp_step))
/-- a value of a list that is joined: a text or none -/
def TxtOr (news : List Cell) (v : Value) : Prop := (∃ x t, v = .str x t) ∨ NoTxt news v
theorem asStr_no {v : Value} (hv : NoTxt news v) (S : St B os G L m news s) {A : Around} {E : Value → Shared → Prop} {Q : Option Str → Shared → Prop} (h : Q none s) : wpAny (model prog w) A (asStr? v) Q E s := by
  cases hv with
  | none => exact wpAny_of_eq (by kernel_rfl) h
  | int => exact wpAny_of_eq (by kernel_rfl) h
  | bool => exact wpAny_of_eq (by kernel_rfl) h
  | bytes => exact wpAny_of_eq (by kernel_rfl) h
  | list x => exact wpAny_bind (wpAny_load (S.get x) (wpAny_pure h))
  | tup x => exact wpAny_bind (wpAny_load (S.get x) (wpAny_pure h))
theorem msg_fits (i : Nat) (nm : String) (hi : i < 2 ^ 20) (hn : nm.length ≤ 8) : ((s!"sequence item {i}: expected str instance, {nm} found" : String) : Str).length ≤ sizeLine := by
  have h1 : (toString i).length ≤ 20 := nat_repr_length_le (n := i) (k := 20) (by decide) hi
  rw [PySem.ofString_length, PySem.sizeLine_eq]
  simp only [String.length_append, show (toString "sequence item ").length = 14 by decide, show (toString ": expected str instance, ").length = 25 by decide, show (toString " found").length = 6 by decide, show (toString nm) = nm from rfl]
  omega
theorem join_loop_bad {Q : Array Str → Shared → Prop} (hh : A.handled = none) (S : St B os G L m news s) (hE : ∀ h' tk e, Heap.NewExc s.heap h' e "TypeError" → E (.ref e) { s with heap := h', toks := tk }) :
    ∀ (vs : List Value) (k : Nat) (acc : Array Str), k + vs.length < 2 ^ 20 → (∀ v ∈ vs, TxtOr news v) → (∃ v ∈ vs, NoTxt news v) → wpAny (model prog w) A (forIn (vs.zipIdx k) acc joinBody) Q E s
  | [], _, _, _, _, ⟨_, hm, _⟩ => nomatch hm
  | v :: vs, k, acc, hk, hall, hbad => by
    have hkk : k < 2 ^ 20 := by rw [List.length_cons] at hk; omega
    show wpAny _ _ (forIn ((v, k) :: vs.zipIdx (k + 1)) acc joinBody) _ _ _
    rw [List.forIn_cons]
    rcases hall v (.head _) with ⟨x, t, rfl⟩ | hv
    · refine wpAny_bind ?_
      show wpAny _ _ (pure (ForInStep.yield (acc.push x))) _ _ _
      refine wpAny_pure ?_
      refine join_loop_bad hh S hE vs (k + 1) _ (by rw [List.length_cons] at hk; omega) (fun v hv => hall v (.tail _ hv)) ?_
      obtain ⟨v, hm, hv⟩ := hbad
      rcases List.mem_cons.mp hm with rfl | hm
      · cases hv
      · exact ⟨v, hm, hv⟩
    · obtain ⟨nm, hn, ht⟩ := typeName_ok (prog := prog) (w := w) hv S
      refine wpAny_bind ?_
      show wpAny _ _ (asStr? v >>= _) _ _ _
      refine wpAny_bind (asStr_no hv S ?_)
      refine wpAny_bind (wpAny_rule ?_)
      refine wpAny_bind (ht ?_)
      refine wpAny_bind ?_
      exact wpAny_raiseErrorMade plainExc_TypeError hh hE (msg_fits k nm hkk hn)
theorem joinBad {b D : Addr} {sep : Str} {t : Tok} {its : Array Value} {n : Nat} {Q : Value → Shared → Prop} (hh : A.handled = none) (S : St B os G L m news s) (hb' : s.heap.get? b = some (bjO sep t)) (hD : (D, listOf its n) ∈ news)
    (hk : its.size < 2 ^ 20) (hall : ∀ v ∈ its.toList, TxtOr news v) (hbad : ∃ v ∈ its.toList, NoTxt news v) (hE : ∀ h' tk e, Heap.NewExc s.heap h' e "TypeError" → E (.ref e) { s with heap := h', toks := tk }) : wpAny (model prog w) A (call (.ref b) [.ref D]) Q E s := by
  refine bjCall hb' (codeAny_builtin PySem.F.entry_str_join ?_)
  obtain ⟨other, htree⟩ := join_tree sep t D
  rw [htree]
  refine wpAny_bind (wpAny_typeOf (T := "list") ⟨_, S.get hD, rfl⟩ ?_)
  show wpAny _ _ (do
      match ← seqItems? (.ref D) with
      | some xs => joinTail sep xs.toList
      | none => unsupported "internal:str.join") _ _ s
  unfold seqItems?
  refine wpAny_bind (wpAny_bind (wpAny_load (S.get hD) (wpAny_pure ?_)))
  show wpAny _ _ (joinTail sep its.toList) _ _ s
  have e : joinTail sep its.toList = joinRest sep its.toList := by
    unfold joinTail
    split
    · rename_i x hx
      obtain ⟨v, hm, hv⟩ := hbad
      rw [hx] at hm
      have : v = x := by simpa using hm
      subst this
      rw [if_neg]
      cases hv <;> simp [Builtin.Str.isExactStr]
    · rfl
  rw [e]
  unfold joinRest
  refine wpAny_bind (join_loop_bad (A := A.in1) (E := fun e s' => wants Q E (Except.error e) s') hh S hE its.toList 0 #[] (by simpa using hk) hall hbad)
end
end Mine
end
section
open PySem PySem.W PySem.Calls PyProof.Rows
set_option Elab.async false
set_option maxRecDepth 100000
set_option linter.unusedVariables false
namespace Mine
open PyProof.Rows.TI
abbrev FMap := Addr × (Str → Option Value)
/-- the cells of the frames that lie below -/
def OutF (B : Heap) : List Env → List FMap → List Cell → Prop
  | [], [], [] => True
  | env :: es, q :: qs, c :: cs => (env.frame = some c.1 ∧ env.scope.kind ≠ .module ∧ q.1 = c.1 ∧ NsO c.2 q.2 ∧ B.objs.size ≤ c.1) ∧ OutF B es qs cs
  | _, _, _ => False
theorem OutF.cons {B : Heap} {es : List Env} {qs : List FMap} {cs : List Cell} (h : OutF B es qs cs) {L : Addr} {oL : Obj} {m : Str → Option Value} (f : FrC B L oL m) {name : Str} {scope : Scope} {a : Addr} {cd : Value} (hk : scope.kind = .function := by rfl) :
    OutF B (envOf name scope L a cd :: es) ((L, m) :: qs) ((L, oL) :: cs) :=
  ⟨⟨rfl, (by show scope.kind ≠ .module; rw [hk]; decide), rfl, f.ns, f.above⟩, h⟩
theorem OutF.funFrames {B base h : Heap} : ∀ {es : List Env} {qs : List FMap} {cs : List Cell}, OutF B es qs cs → (∀ c ∈ cs, h.get? c.1 = some c.2 ∧ base.get? c.1 = none) → h.FunFrames base es
  | [], [], [], _, _ => trivial
  | env :: es, q :: qs, c :: cs, ⟨⟨a1, a2, a3, a4, a5⟩, r⟩, hc => by
    refine ⟨a2, ⟨c.1, c.2, a1, (hc c (.head _)).2, (hc c (.head _)).1, fun vs e => ?_⟩, r.funFrames fun c hcm => hc c (.tail _ hcm)⟩
    obtain ⟨es, ep, d, _⟩ := a4
    rw [d] at e; cases e
  | [], [], _ :: _, h, _ => h.elim
  | [], _ :: _, _, h, _ => h.elim
  | _ :: _, [], _, h, _ => h.elim
  | _ :: _, _ :: _, [], h, _ => h.elim
theorem OutF.maps {B h : Heap} : ∀ {es : List Env} {qs : List FMap} {cs : List Cell}, OutF B es qs cs → (∀ c ∈ cs, h.get? c.1 = some c.2) → ∀ q ∈ qs, h.Ns q.1 q.2 ∧ q.1 ∈ cs.map (·.1) ∧ B.objs.size ≤ q.1
  | [], [], [], _, _ => fun q hq => nomatch hq
  | env :: es, q :: qs, c :: cs, ⟨⟨a1, a2, a3, a4, a5⟩, r⟩, hc => by
    intro q' hq
    rcases List.mem_cons.mp hq with rfl | hq
    · refine ⟨?_, ?_, ?_⟩
      · rw [a3]; exact a4.ns (hc c (.head _))
      · rw [a3]; exact .head _
      · rw [a3]; exact a5
    · obtain ⟨x, y, z⟩ := r.maps (fun c hcm => hc c (.tail _ hcm)) q' hq
      exact ⟨x, .tail _ y, z⟩
  | [], [], _ :: _, h, _ => h.elim
  | [], _ :: _, _, h, _ => h.elim
  | _ :: _, [], _, h, _ => h.elim
  | _ :: _, _ :: _, [], h, _ => h.elim
/-- a TypeError on its way through the frames l -/
structure Fly (B : Heap) (os : OsState) (G : Array GenState) (l : List Env) (fm : List FMap) (news : List Cell) (e : Addr) (s : Shared) : Prop where
  ex : ∃ base a0, Heap.FlyingW base l e (.type "TypeError") a0 s.heap ∧ B.StaysIn base ∧ (∀ p ∈ news, base.get? p.1 = some p.2 ∧ B.get? p.1 = none) ∧ ∀ q ∈ fm, s.heap.Ns q.1 q.2 ∧ base.get? q.1 = none ∧ B.objs.size ≤ q.1
  nd : (news.map (·.1)).Nodup
  gens : s.gens = G
  bare : AllBare G
  os : s.os = os
section
variable {prog : Program} {w : World} {A : Around} {E : Value → Shared → Prop} {s s' : Shared} {B : Heap} {os : OsState} {G : Array GenState} {L : Addr} {m : Str → Option Value} {fc news news' : List Cell} {K : Frag} {outer : List Env} {fm : List FMap} {e : Addr}
theorem leave_new {h₁ : Heap} {tk : Nat} {name : Str} {scope : Scope} {a : Addr} {cd : Value} {M : Model} {Q : Unit → Shared → Prop} (hfr : A.frames = some outer) (FF : OutF B outer fm fc) (S : St B os G L m (fc ++ news) s) (hx : Heap.NewExc s.heap h₁ e "TypeError")
    (k : ∀ s', Fly B os G outer fm news e s' → Q () s') (hk : scope.kind = .function := by rfl) :
    wpAny M (A.deeper (envOf name scope L a cd)) (leaving (envOf name scope L a cd) (.ref e)) Q E { s with heap := h₁, toks := tk } := by
  obtain ⟨ob, tp, he, hcls, hdat⟩ := hx.there
  obtain ⟨oL, eL, nsL⟩ := ns_nsO S.F.ns
  have nd := S.nd
  rw [List.map_append, List.nodup_append] at nd
  generalize hg : gone s.heap (L :: fc.map (·.1)) = gg
  have gn : ∀ {b}, b ∈ L :: fc.map (·.1) → gg.get? b = none := fun hb => by rw [← hg]; exact gone_none hb
  have gsm : ∀ {b o}, gg.get? b = some o → s.heap.get? b = some o := fun q => by rw [← hg] at q; exact (gone_some q).2
  have gget : ∀ {b}, b ∉ L :: fc.map (·.1) → gg.get? b = s.heap.get? b := fun hb => by rw [← hg]; exact gone_get hb
  clear hg
  have cell : ∀ c ∈ fc, h₁.get? c.1 = some c.2 ∧ gg.get? c.1 = none := fun c hc =>
    ⟨hx.keeps _ _ (S.get (List.mem_append.mpr (.inl hc))), gn (.tail _ (List.mem_map_of_mem (f := Prod.fst) hc))⟩
  have ff : h₁.FunFrames gg (envOf name scope L a cd :: outer) := by
    refine ⟨by show scope.kind ≠ .module; rw [hk]; decide, ⟨L, oL, rfl, gn (.head _), hx.keeps _ _ eL, fun vs q => ?_⟩, FF.funFrames cell⟩
    obtain ⟨es, ep, d, _⟩ := nsL
    rw [d] at q; cases q
  have hen : gg.get? e = none := by
    cases q : gg.get? e with
    | none => rfl
    | some o => have := gsm q; rw [hx.new] at this; cases this
  refine wpAny_leaving_firstW (s := { s with heap := h₁, toks := tk }) (a0 := tp) (Around.frames_deeper hfr) ff rfl he (fun b o q => hx.keeps _ _ (gsm q)) hen hdat rfl rfl fun h' hL => ?_
  obtain ⟨k1, ⟨_, _, k2⟩, k3, k4⟩ := hL
  have apart : ∀ b, b ∈ L :: fc.map (·.1) → B.get? b = none := by
    intro b hb
    rcases List.mem_cons.mp hb with rfl | hb
    · exact base_none S.F.above
    · obtain ⟨c, hc, rfl⟩ := List.mem_map.mp hb
      exact (S.N c (List.mem_append.mpr (.inl hc))).2.2
  refine k _ ⟨⟨gg, tp, ⟨k1, hen, k2, by rw [← hcls]; exact k3⟩, fun b o q => ?_, fun p hp => ?_, fun q hq => ?_⟩, nd.2.1, S.gens, S.bare, S.os⟩
  · refine (gget fun hb => ?_).trans (S.F.keep b o q)
    rw [apart b hb] at q; cases q
  · have z := S.N p (List.mem_append.mpr (.inr hp))
    refine ⟨(gget fun hb => ?_).trans z.1, z.2.2⟩
    rcases List.mem_cons.mp hb with q | hb
    · exact z.2.1 q
    · exact nd.2.2 _ hb _ (List.mem_map_of_mem (f := Prod.fst) hp) rfl
  · obtain ⟨x, y, z⟩ := FF.maps (fun c hc => (cell c hc).1) q hq
    exact ⟨Heap.UpToSlots.ns k4 x, gn (.tail _ y), z⟩
/-- on through a frame -/
theorem leave_on {name : Str} {scope : Scope} {a : Addr} {cd : Value} {M : Model} {Q : Unit → Shared → Prop} (hfr : A.frames = some outer) (F : Fly B os G (envOf name scope L a cd :: outer) ((L, m) :: fm) news e s)
    (k : ∀ s', Fly B os G outer fm news e s' → Q () s') : wpAny M (A.deeper (envOf name scope L a cd)) (leaving (envOf name scope L a cd) (.ref e)) Q E s := by
  obtain ⟨⟨base, a0, fl, st, cs, fs⟩, nd, g, b, o⟩ := F
  refine wpAny_leaves_onW (Around.frames_deeper hfr) rfl fl fun h' x1 x2 => k _ ⟨⟨base, a0, x1, st, cs, fun q hq => ?_⟩, nd, g, b, o⟩
  obtain ⟨p1, p2⟩ := fs q (.tail _ hq)
  exact ⟨Heap.UpToSlots.ns x2 p1, p2⟩
theorem fly_st {l : List Env} (F : Fly B os G l ((L, m) :: fm) news e s) {h' : Heap} {base : Heap} (k1 : base.StaysIn h') (st : B.StaysIn base) (cs : ∀ p ∈ news, base.get? p.1 = some p.2 ∧ B.get? p.1 = none) (hn : h'.Ns L m) (hb : base.get? L = none) (ha : B.objs.size ≤ L) : St B os G L m news { s with heap := h' } :=
  ⟨⟨hn, fun b o q => k1 _ _ (st b o q), ha⟩, fun p hp => ⟨k1 _ _ (cs p hp).1, (fun q => by have := (cs p hp).1; rw [q, hb] at this; cases this), (cs p hp).2⟩, F.nd, F.gens, F.bare, F.os⟩
/-- it is caught -/
theorem caught {b₀ : Stmt} {suite : List Stmt} {pos np : Pos} {name : Str} {scope : Scope} {a : Addr} {cd : Value} {rest : List ExceptHandler} {Q : Flow → Shared → Prop} (C : Cx K B) (hfr : A.frames = some outer) (F : Fly B os G (envOf name scope L a cd :: outer) ((L, m) :: fm) news e s)
    (ex : nsIn K mainGlobals "TypeError" = some none)
    (k : ∀ s', St B os G L m news s' → wpAny (model prog w) ((A.deeper (envOf name scope L a cd)).mark (some (.ref e))) (execs (b₀ :: suite) (envOf name scope L a cd)) Q E s')
    (hk : scope.kind = .function := by rfl) (hxk : (envOf name scope L a cd).kindOf "TypeError" = some .globalImplicit := by rfl)
    (hE : PassesOwnAt (model prog w) ((A.deeper (envOf name scope L a cd)).mark (some (.ref e))) (A.deeper (envOf name scope L a cd)) (envOf name scope L a cd) E := by passes_own) :
    wpAny (model prog w) (A.deeper (envOf name scope L a cd)) (noteFrame (.ref e) (envOf name scope L a cd))
      (fun _ s₂ => wpAny (model prog w) (A.deeper (envOf name scope L a cd)) (setFlight (.ref e) none) (fun _ s₃ =>
        wpAny (model prog w) (A.deeper (envOf name scope L a cd)) (handleBy (.ref e) (envOf name scope L a cd) (.ExceptHandler (some (.Name "TypeError" np)) none (b₀ :: suite) pos :: rest)) Q E s₃) E s₂) E s := by
  obtain ⟨⟨base, a0, fl, st, cs, fs⟩, nd, g, b, o⟩ := id F
  obtain ⟨p1, p2, p3⟩ := fs (L, m) (.head _)
  refine wpAny_looks_onW (Around.frames_deeper hfr) rfl fl fun h₄ hh₄ sm₄ => ?_
  refine wpAny_landsW hh₄ fun h₅ hh₅ sm₅ => ?_
  have n5 : h₅.Ns L m := Heap.UpToSlots.ns sm₅ (Heap.UpToSlots.ns sm₄ p1)
  have S₅ := fly_st F hh₅.1 st cs n5 p2 p3
  obtain ⟨ob, hob, hobc⟩ := hh₅.there
  obtain ⟨tp, tl, tg, tb, tr⟩ := C.top
  refine wpAny_handleBy_builtin (X := "TypeError") (T := "TypeError") (b := true) (isSubtype_of_subB (by decide +kernel)) (isSubtype_of_subB (by decide +kernel)) (isSubtype_of_subB (by decide +kernel)) (name_B S₅.F C.X tr ex (by decide +kernel) (by decide) ⟨rfl, ⟨ob, hob, hobc⟩, ?_⟩ hk hxk (by decide))
  rw [if_pos rfl]
  refine lands_againW hh₅ fun h₆ hh₆ sm₆ => ?_
  exact wpAny_passesOwnAt hE (k _ (fly_st F hh₆.1 st cs (Heap.UpToSlots.ns sm₆ n5) p2 p3))
end
end Mine
end
section
open PySem PySem.W PySem.Calls PyProof.Rows
set_option Elab.async false
set_option maxRecDepth 100000
set_option linter.unusedVariables false
namespace Mine
abbrev instO (C d : Addr) : Obj := ⟨.ref C, some d, .plain, #[]⟩
abbrev txt (s : String) : Str := Str.ofString s
/-- a writer: its addresses and what they hold -/
structure W4 where
  x : Addr
  dx : Addr
  da : Addr
  st : Addr
  ns : Addr
  ps : Addr
  es : Addr
  bm : Addr
  pl : Addr
  lx : Addr
  tp : Addr
  od : Obj
  oes : Obj
  tx1 : Tok
  tx2 : Tok
  data : List Value
  nd : Nat
  dec : List Addr
  nst : Nat
  nsl : List (Addr × Array Value × Nat)
  nns : Nat
  psn : Nat
  nps : Nat
  out : List Value
  npl : Nat
abbrev decC (l : List Addr) : List Cell := l.map fun a => (a, listOf #[] 0)
abbrev nslC (l : List (Addr × Array Value × Nat)) : List Cell := l.map fun q => (q.1, listOf q.2.1 q.2.2)
abbrev xmlUri : Str := txt "http://www.w3.org/XML/1998/namespace"
/-- its cells -/
abbrev W4.cells (C : Addr) (σ : W4) : List Cell :=
  (σ.x, instO C σ.dx) :: (σ.dx, σ.od) :: (σ.da, listOf σ.data.toArray σ.nd) :: (σ.st, listOf ((σ.lx :: σ.dec).map Value.ref).toArray σ.nst) :: (σ.ns, listOf (σ.nsl.map fun q => Value.ref q.1).toArray σ.nns) :: (σ.ps, listOf (List.replicate σ.psn (Value.bool false)).toArray σ.nps) ::
    (σ.es, σ.oes) :: (σ.bm, bmO σ.pl) :: (σ.pl, listOf σ.out.toArray σ.npl) :: (σ.lx, listOf #[.ref σ.tp] 0) :: (σ.tp, tupO #[.str xmlUri σ.tx1, .str (txt "xml") σ.tx2]) :: (decC σ.dec ++ nslC σ.nsl)
/-- what the writer's own dict says -/
structure Am4 (am : Str → Option Value) (σ : W4) (wc sp seen done : Bool) (ign : Nat) : Prop where
  write : am (txt "_write") = some (.ref σ.bm)
  data : am (txt "_data") = some (.ref σ.da)
  wc : am (txt "_with_comments") = some (.bool wc)
  sp : am (txt "_strip_text") = some (.bool sp)
  exa : am (txt "_exclude_attrs") = some .none
  ext : am (txt "_exclude_tags") = some (.ref σ.es)
  rew : am (txt "_rewrite_prefixes") = some (.bool false)
  qat : am (txt "_qname_aware_tags") = some .none
  fqa : am (txt "_find_qname_aware_attrs") = some .none
  dst : am (txt "_declared_ns_stack") = some (.ref σ.st)
  nss : am (txt "_ns_stack") = some (.ref σ.ns)
  psp : am (txt "_preserve_space") = some (.ref σ.ps)
  pend : am (txt "_pending_start") = some .none
  seen : am (txt "_root_seen") = some (.bool seen)
  done : am (txt "_root_done") = some (.bool done)
  ign : ∃ t, am (txt "_ignored_depth") = some (.int ign t)
  m1 : am (txt "_iter_namespaces") = none
  m2 : am (txt "_qname") = none
  m3 : am (txt "_flush") = none
  m4 : am (txt "_start") = none
  m5 : am (txt "start") = none
  m6 : am (txt "end") = none
  m7 : am (txt "data") = none
  m8 : am (txt "comment") = none
  m9 : am (txt "pi") = none
  m10 : am (txt "start_ns") = none
/-- a writer in good order -/
structure Ok4 (prog : Program) (w : World) (σ : W4) (wc sp seen done : Bool) (ign : Nat) : Prop where
  am : ∃ am, NsZ 20 σ.od am ∧ Am4 am σ wc sp seen done ign
  es : SetO prog w σ.oes (fun k => decide (k = txt "x")) 1
  psn : σ.psn = σ.dec.length + 1
/-- the attributes stay when another one is stored -/
theorem put_ne {am : Str → Option Value} {name y : Str} {v : Value} {r : Option Value} (h : am y = r) (hn : ¬ y = name) : (fun z => if z = name then some v else am z) y = r := by
  show (if y = name then some v else am y) = r
  rw [if_neg hn]; exact h
theorem put_eq {am : Str → Option Value} {name : Str} {v : Value} : (fun z => if z = name then some v else am z) name = some v := if_pos rfl
theorem Am4.putIgn {am : Str → Option Value} {σ : W4} {wc sp seen done : Bool} {ign ign' : Nat} {t : Tok} (a : Am4 am σ wc sp seen done ign) : Am4 (fun y => if y = txt "_ignored_depth" then some (.int ign' t) else am y) σ wc sp seen done ign' := by
  obtain ⟨a1, a2, a3, a4, a5, a6, a7, a8, a9, a10, a11, a12, a13, a14, a15, ⟨t, a16⟩, b1, b2, b3, b4, b5, b6, b7, b8, b9, b10⟩ := a
  constructor <;> first | (refine ⟨_, put_eq⟩) | exact put_eq | (refine put_ne (by assumption) (by decide))
theorem Am4.putSeen {am : Str → Option Value} {σ : W4} {wc sp seen seen' done : Bool} {ign : Nat} (a : Am4 am σ wc sp seen done ign) : Am4 (fun y => if y = txt "_root_seen" then some (.bool seen') else am y) σ wc sp seen' done ign := by
  obtain ⟨a1, a2, a3, a4, a5, a6, a7, a8, a9, a10, a11, a12, a13, a14, a15, ⟨t, a16⟩, b1, b2, b3, b4, b5, b6, b7, b8, b9, b10⟩ := a
  constructor <;> first | exact put_eq | (refine put_ne (by assumption) (by decide)) | (refine ⟨t, put_ne (by assumption) (by decide)⟩)
theorem Am4.putDone {am : Str → Option Value} {σ : W4} {wc sp seen done done' : Bool} {ign : Nat} (a : Am4 am σ wc sp seen done ign) : Am4 (fun y => if y = txt "_root_done" then some (.bool done') else am y) σ wc sp seen done' ign := by
  obtain ⟨a1, a2, a3, a4, a5, a6, a7, a8, a9, a10, a11, a12, a13, a14, a15, ⟨t, a16⟩, b1, b2, b3, b4, b5, b6, b7, b8, b9, b10⟩ := a
  constructor <;> first | exact put_eq | (refine put_ne (by assumption) (by decide)) | (refine ⟨t, put_ne (by assumption) (by decide)⟩)
/-- the facts hold of any writer with the same addresses -/
structure SameAt (σ τ : W4) : Prop where
  bm : τ.bm = σ.bm
  da : τ.da = σ.da
  es : τ.es = σ.es
  st : τ.st = σ.st
  ns : τ.ns = σ.ns
  ps : τ.ps = σ.ps
theorem Am4.same {am : Str → Option Value} {σ τ : W4} {wc sp seen done : Bool} {ign : Nat} (a : Am4 am σ wc sp seen done ign) (h : SameAt σ τ) : Am4 am τ wc sp seen done ign := by
  obtain ⟨a1, a2, a3, a4, a5, a6, a7, a8, a9, a10, a11, a12, a13, a14, a15, a16, b1, b2, b3, b4, b5, b6, b7, b8, b9, b10⟩ := a
  obtain ⟨e1, e2, e3, e4, e5, e6⟩ := h
  exact ⟨by rw [e1]; exact a1, by rw [e2]; exact a2, a3, a4, a5, by rw [e3]; exact a6, a7, a8, a9, by rw [e4]; exact a10, by rw [e5]; exact a11, by rw [e6]; exact a12, a13, a14, a15, a16, b1, b2, b3, b4, b5, b6, b7, b8, b9, b10⟩
theorem W4.upLast {C : Addr} {σ : W4} {init : List (Addr × Array Value × Nat)} {q : Addr × Array Value × Nat} (h : σ.nsl = init ++ [q]) (its' : Array Value) (n' : Nat) :
    Up q.1 (listOf q.2.1 q.2.2) (listOf its' n') (σ.cells C) ({ σ with nsl := init ++ [(q.1, its', n')] }.cells C) := by
  have e1 : nslC σ.nsl = nslC init ++ [(q.1, listOf q.2.1 q.2.2)] := by rw [h]; simp [nslC]
  have e2 : nslC (init ++ [(q.1, its', n')]) = nslC init ++ [(q.1, listOf its' n')] := by simp [nslC]
  have e3 : (σ.nsl.map fun q => Value.ref q.1) = ((init ++ [(q.1, its', n')]).map fun q => Value.ref q.1) := by rw [h]; simp
  unfold W4.cells
  rw [e1, e2, e3]
  exact .tail (.tail (.tail (.tail (.tail (.tail (.tail (.tail (.tail (.tail (.tail ((Up.head.pre (nslC init)).pre (decC σ.dec))))))))))))
/-- what a writer is to the law -/
structure Abs where
  data : List Value
  out : List Str
  dep : Nat
  seen : Bool
  done : Bool
  ign : Nat
  nsm : Nat
/-- texts as values -/
def OutIs (vs : List Value) (l : List Str) : Prop := ∃ ps : List (Str × Tok), vs = strValues ps ∧ ps.map (·.1) = l
theorem OutIs.snoc {vs : List Value} {l : List Str} (h : OutIs vs l) (x : Str) (t : Tok) : OutIs (vs ++ [.str x t]) (l ++ [x]) := by
  obtain ⟨ps, rfl, rfl⟩ := h
  exact ⟨ps ++ [(x, t)], by simp [strValues], by simp⟩
theorem OutIs.length {vs : List Value} {l : List Str} (h : OutIs vs l) : vs.length = l.length := by
  obtain ⟨ps, rfl, rfl⟩ := h
  simp [strValues]
structure Is4 (prog : Program) (w : World) (wc sp : Bool) (x da pl : Addr) (a : Abs) (σ : W4) : Prop where
  ok : Ok4 prog w σ wc sp a.seen a.done a.ign
  ax : σ.x = x
  ada : σ.da = da
  apl : σ.pl = pl
  data : σ.data = a.data
  out : OutIs σ.out a.out
  dep : σ.dec.length = a.dep
  nsl : σ.nsl.length = a.dep + 2
  nsz : ∀ q ∈ σ.nsl, q.2.1.size ≤ a.nsm + 7
/-- the cells W are a writer in the state a -/
def Wr (prog : Program) (w : World) (C : Addr) (wc sp : Bool) (x da pl : Addr) (a : Abs) (W : List Cell) : Prop := ∃ σ : W4, W = σ.cells C ∧ Is4 prog w wc sp x da pl a σ
section
variable {B : Heap} {os : OsState} {G : Array GenState} {L : Addr} {m : Str → Option Value} {s : Shared}
theorem St.sink {c : Cell} {W r : List Cell} (S : St B os G L m (c :: (W ++ r)) s) : St B os G L m (W ++ (c :: r)) s := S.perm List.perm_middle.symm
theorem St.rise {c : Cell} {W r : List Cell} (S : St B os G L m (W ++ (c :: r)) s) : St B os G L m (c :: (W ++ r)) s := S.perm List.perm_middle
end
end Mine
end
section
open PySem PySem.W PySem.Calls PyProof.Rows
set_option Elab.async false
set_option maxRecDepth 100000
set_option linter.unusedVariables false
namespace Mine
theorem if_true' {c : Bool} {α : Sort _} {a b : α} (h : c = true) : (if c = true then a else b) = a := if_pos h
theorem ifT {c : Bool} {a b : Prop} (h : c = true) (x : a) : if c = true then a else b := by rw [if_pos h]; exact x
theorem ifF {c : Bool} {a b : Prop} (h : c = false) (x : b) : if c = true then a else b := by rw [if_neg (by rw [h]; decide)]; exact x
section
variable {prog : Program} {w : World} {A : Around} {E : Value → Shared → Prop} {s s' : Shared} {B : Heap} {os : OsState} {G : Array GenState} {L : Addr} {m : Str → Option Value} {news news' : List Cell} {K : Frag}
theorem appM {D : Addr} {its : Array Value} {n : Nat} {pl : Sem Bool} {Q : Value × List Value → Shared → Prop} (S : St B os G L m news s) (hl : (D, listOf its n) ∈ news) (h : Q (.builtin "list.append", [.ref D]) s) : wpAny (model prog w) A (getMethod (.ref D) "append" pl) Q E s :=
  listMethod_K S.N hl PySem.F.slot_list_append PySem.F.type_list_append h
theorem appendS {D : Addr} {its : Array Value} {n : Nat} {v : Value} {Q : Value → Shared → Prop} (S : St B os G L m news s) (U : Up D (listOf its n) (listOf (its.push v) (n + 1)) news news') (h : ∀ s', St B os G L m news' s' → Q .none s') (hsz : its.size ≤ sizeLine := by size_fits) :
    wpAny (model prog w) A (call (.builtin "list.append") [.ref D, v]) Q E s :=
  append_K S.F S.N (U.upd S.nd) (fun h' F' N' => h _ (S.to (s' := { s with heap := h' }) F' N' U.keys)) hsz
theorem appendL {D : Addr} {l : List Value} {n : Nat} {v : Value} {Q : Value → Shared → Prop} (S : St B os G L m news s) (U : Up D (listOf l.toArray n) (listOf (l ++ [v]).toArray (n + 1)) news news') (h : ∀ s', St B os G L m news' s' → Q .none s') (hsz : l.length < 100000) :
    wpAny (model prog w) A (call (.builtin "list.append") [.ref D, v]) Q E s :=
  appendS S (by rw [List.push_toArray]; exact U) h (by rw [PySem.sizeLine_eq, List.size_toArray]; omega)
theorem bmCallL {b D : Addr} {l : List Value} {n : Nat} {v : Value} {Q : Value → Shared → Prop} (S : St B os G L m news s) (hb : (b, bmO D) ∈ news) (U : Up D (listOf l.toArray n) (listOf (l ++ [v]).toArray (n + 1)) news news')
    (h : ∀ s', St B os G L m news' s' → Q .none s') (hsz : l.length < 100000) : wpAny (model prog w) A (call (.ref b) [v]) Q E s :=
  bmCallS S hb (by rw [List.push_toArray]; exact U) h (by rw [PySem.sizeLine_eq, List.size_toArray]; omega)
/-- the same ledger under another name -/
theorem St.as (S : St B os G L m news s) (h : news = news') : St B os G L m news' s := h ▸ S
end
end Mine
end
section
open PySem PySem.W PySem.Calls PyProof.Rows
set_option Elab.async false
set_option maxRecDepth 100000
set_option linter.unusedVariables false
namespace Mine
theorem lk_slice_index : typeLookup (.type "slice") "__index__" = pure none := by rw [typeLookup_type, builtinLookup_eq_fast]; kernel_rfl
abbrev sliO : Obj := { cls := .type "slice", data := .fields #[.none, .none, .none] }
section
variable {prog : Program} {w : World} {A : Around} {E : Value → Shared → Prop} {h : Heap} {g : Array GenState} {d : Drawn} {t : Nat} {os : OsState} {a : Addr} {o : Obj}
set_option maxHeartbeats 1000000 in
theorem delAll_tree {D sl : Addr} {its : Array Value} {n : Nat} {Q : Fin → Shared → Prop} (hD : h.get? D = some (listOf its n)) (hs : h.get? sl = some sliO) (hsz : its.size ≤ sizeLine)
    (hq : ∀ f : Array Value → Array Value, f its = #[] → Q (.done (.ret .none)) ⟨h.update D (Obj.mapSeq f), g, d, t, os⟩) :
    wpAny (model prog w) A (Builtin.«list.__delitem__» ⟨[.ref D, .ref sl], []⟩) Q E ⟨h, g, d, t, os⟩ := by
  have hT : (⟨h, g, d, t, os⟩ : Shared).TypeIs (.ref D) "list" := ⟨_, hD, rfl⟩
  have hT2 : (⟨h, g, d, t, os⟩ : Shared).TypeIs (.ref sl) "slice" := ⟨_, hs, rfl⟩
  have f1 := lk_slice_index
  have hdd : (listOf its n).data = .seq its n := rfl
  repeat (any_goals (first | assumption | (with_reducible refine wpAny_updateSeq hD hdd ?_ hsz ?side) | wp_step))
  case side =>
    show (List.filterMap _ _).toArray.size ≤ _
    rw [List.size_toArray]
    refine Nat.le_trans (List.length_filterMap_le _ _) ?_
    rw [List.length_zipIdx, Array.length_toList]
    exact Nat.le_succ_of_le hsz
  all_goals
    refine hq _ ?_
    show (List.filterMap _ _).toArray = #[]
    rw [List.filterMap_eq_nil_iff.mpr]
    rintro ⟨x, k⟩ hk
    refine if_pos ?_
    have hk' : k < its.size := by
      have := List.mem_zipIdx hk
      simp at this
      omega
    show (if (1 : Int) > 0 then _ else _) = true
    rw [if_pos (by decide), if_pos (by decide)]
    simp
    omega
end
section
variable {prog : Program} {w : World} {A : Around} {E : Value → Shared → Prop} {s s' : Shared} {B : Heap} {os : OsState} {G : Array GenState} {L : Addr} {m : Str → Option Value} {news news' : List Cell} {K : Frag} {env : Env}
theorem sliceS {p : Pos} {Q : Value → Shared → Prop} (S : St B os G L m news s) (h : ∀ a s', St B os G L m ((a, sliO) :: news) s' → Q (.ref a) s') : wpAny (model prog w) A (eval (.Slice none none none p) env) Q E s :=
  wpAny_Slice (wpAny_pure (wpAny_pure (wpAny_pure (h _ _ (S.push (t := s.toks) sliO)))))
theorem mapSeq_any (f : Array Value → Array Value) (its : Array Value) (n : Nat) : ∃ n', Obj.mapSeq f (listOf its n) = listOf (f its) n' := ⟨if ((f its).size == its.size) = true then n else n + 1, by simp only [Obj.mapSeq]⟩
theorem delAllS {D sl : Addr} {its : Array Value} {n : Nat} {news' : Nat → List Cell} {Q : Unit → Shared → Prop} (S : St B os G L m news s) (hs : (sl, sliO) ∈ news) (U : ∀ n', Up D (listOf its n) (listOf #[] n') news (news' n')) (hsz : its.size ≤ sizeLine)
    (h : ∀ n' s', St B os G L m (news' n') s' → Q () s') : wpAny (model prog w) A (delItem (.ref D) (.ref sl)) Q E s := by
  have hD := S.get (U 0).mem
  obtain ⟨hp, g, d, t, o⟩ := s
  refine wpAny_delItem_slot (T := "list") ⟨_, hD, rfl⟩ (by decide) PySem.F.slot_list_delitem ?_
  refine wpAny_call_entry PySem.F.slot_list_delitem ⟨_, hD, rfl⟩ PySem.F.entry_list_delitem ?_ (PySem.F.args_list_delitem_2 _ _)
  refine delAll_tree hD (S.get hs) hsz (fun f hf => ?_)
  obtain ⟨n', e⟩ := mapSeq_any f its n
  rw [hf] at e
  exact ⟨_, rfl, h n' _ (S.same (t := t) (U n') (Heap.SameBut.update ..) (by rw [Heap.get?_update_self _ hD (by rw [e]; rfl), e]))⟩
theorem lastS {value slice : PySem.Expr} {D : Addr} {l : List Value} {x : Value} {n : Nat} {u : Tok} {Q : Value → Shared → Prop} (S : St B os G L m news s) (hl : (D, listOf (l ++ [x]).toArray n) ∈ news) (h : Q x s)
    (hs : subscripted slice false (.ref D) (.int (-1) u) = operate [.ref D, .int (-1) u] (getItem (.ref D) (.int (-1) u)) := by with_unfolding_all rfl) : wpAny (model prog w) A (subscriptTail value slice (.ref D) (.int (-1) u)) Q E s := by
  refine subscriptTail_builtinR (listOf_isList (S.get hl)).typeIs slot_list_getitem.lookup (wpAny_getItem_list_neg (Q := fun r s' => r = x ∧ Q r s') (listOf_isList (S.get hl)) (by decide) (by simp; omega) (by decide) ?_ ⟨rfl, h⟩) hs
  simp only [List.size_toArray, List.length_append, List.length_cons, List.length_nil]
  have : ((-1 : Int) + ((l.length + (0 + 1) : Nat) : Int)).toNat = l.length := by omega
  rw [this]
  simp
theorem deleteOne {tg : PySem.Expr} {Q : Unit → Shared → Prop} (h : wpAny (model prog w) A (delete tg env) Q E s) : wpAny (model prog w) A (deleteEach [tg] env) Q E s := by
  rw [arm_deleteEach_cons]
  exact wpAny_bind (wpAny_mono h (fun _ _ z => by rw [arm_deleteEach_nil]; exact wpAny_pure z) fun _ _ z => z)
/-- a cut behind a statement -/
theorem stmt_cut {st : Stmt} {rs : List Stmt} {Q : Flow → Shared → Prop} (I : Shared → Prop) (h : wpAny (model prog w) A (exec st env) (fun f s => f = .next ∧ I s) E s) (k : ∀ s, I s → wpAny (model prog w) A (execs rs env) Q E s) : wpAny (model prog w) A (execs (st :: rs) env) Q E s := by
  refine wpAny_execs_cons (wpAny_mono h ?_ fun _ _ z => z)
  rintro f s ⟨rfl, hI⟩
  exact k s hI
theorem minus1 {p1 p2 : Pos} {k : Nat} {Q : Value → Shared → Prop} (S : St B os G L m news s) (h : ∀ t s', St B os G L m news s' → Q (.int (-1) t) s') : wpAny (model prog w) A (eval (.UnaryOp .USub (.Constant (.int 1) k p1) p2) env) Q E s :=
  wpAny_UnaryOp (wpAny_Constant_int (PySem.P.neg_int (h _ _ S.tk)))
theorem sum_len {l : List (Str × Tok)} {c : Nat} (h : ∀ p ∈ l, p.1.length ≤ c) : ((l.map (·.1)).map (·.length)).sum ≤ l.length * c := by
  induction l with
  | nil => simp
  | cons p r ih =>
    have h1 := h p (.head _)
    have h2 := ih fun q hq => h q (.tail _ hq)
    simp only [List.map_cons, List.sum_cons, List.length_cons, Nat.succ_mul] at *
    omega
theorem join_small {l : List (Str × Tok)} {c : Nat} (h : ∀ p ∈ l, p.1.length ≤ c) (hl : l.length * c < 100000) : JoinOk (Str.ofString "") (l.map (·.1)) = true ∧ (Txt.join (Str.ofString "") (l.map (·.1))).length ≤ l.length * c := by
  have h1 := sum_len h
  have e : (Str.ofString "").length = 0 := by decide
  constructor
  · unfold JoinOk
    rw [StrLaws.joinTotal, e, Nat.mul_zero, Nat.add_zero]
    have : Builtin.Str.tooLong ((l.map (·.1)).map (·.length)).sum = false := by
      unfold Builtin.Str.tooLong
      exact decide_eq_false (by rw [PySem.sizeLine_eq]; omega)
    rw [this]; rfl
  · have h2 := StrLaws.join_length_le (Str.ofString "") (l.map (·.1))
    rw [e, Nat.mul_zero, Nat.add_zero, ← StrLaws.glued_eq_join] at h2
    exact Nat.le_trans h2 h1
/-- an attribute that is no def, met in a call -/
theorem valM {x C dx : Addr} {od : Obj} {sl : Array (Option Value)} {am : Str → Option Value} {name : Str} {v : Value} {pl : Sem Bool} {Q : Value × List Value → Shared → Prop} (S : St B os G L m news s) (X : K.In B)
    (hx : (x, (⟨.ref C, some dx, .plain, sl⟩ : Obj)) ∈ news) (hd : (dx, od) ∈ news) (ho : NsO od am) (hg : plainGet K C name = true) (hh : hasDictIn K C = true) (ha : findIn K (.ref C) name = some none)
    (hv : am name = some v) (hv' : handedIn v = true) (h : ∀ s', St B os G L m news s' → Q (v, []) s') : wpAny (model prog w) A (getMethod (.ref x) name pl) Q E s :=
  method_usual (S.X X) (InstAt.of_news S.N hx hd) (plainGet_of hg).1 (plainGet_of hg).2 ha rfl (attrS S X hx hd ho hg hh ha rfl hv hv' h)
theorem str_len0 {x : Str} : ((x.length : Int) != 0) = !decide (x = Str.ofString "") := by
  by_cases h : x = Str.ofString ""
  · subst h; rfl
  · have : x.length ≠ 0 := by
      intro e
      apply h
      cases x with
      | mk a =>
        have e' : a.size = 0 := e
        have := Array.eq_empty_of_size_eq_zero e'
        subst this; rfl
    simp [h]
    omega
end
end Mine
end
section
open PySem PySem.W PySem.Calls PyProof.Rows
set_option Elab.async false
set_option maxRecDepth 100000
set_option linter.unusedVariables false
namespace Mine
/-- one stage of the escape -/
def esc1 (c r x : Str) : Str := if Txt.contains x c = true then Txt.replace x c r else x
theorem replace_length (x y z : Str) : (Txt.replace x y z).length ≤ x.length + (x.length + 1) * z.length := by
  unfold Txt.replace
  split
  · exact Nat.le_add_right _ _
  · have h1 := StrLaws.occ_length_le x y 0 x.length (x.length + 1)
    have hy : (Builtin.Str.glued y (Builtin.Str.partsBetween x (Builtin.Str.occurrences x y 0 x.length (x.length + 1)) y.length)).length = x.length := by rw [StrLaws.glued_between_self]
    rw [size_glued, length_partsBetween, Nat.add_sub_cancel] at hy
    rw [size_glued, length_partsBetween, Nat.add_sub_cancel]
    have h2 : (Builtin.Str.occurrences x y 0 x.length (x.length + 1)).length * z.length ≤ (x.length + 1) * z.length := Nat.mul_le_mul_right _ h1
    omega
theorem esc1_length {c r x : Str} {a b : Nat} (h : x.length ≤ a) (hr : r.length ≤ b) : (esc1 c r x).length ≤ a + (a + 1) * b := by
  unfold esc1
  split
  · refine Nat.le_trans (replace_length x c r) ?_
    have : (x.length + 1) * r.length ≤ (a + 1) * b := Nat.mul_le_mul (by omega) hr
    omega
  · omega
section
variable {prog : Program} {w : World} {A : Around} {E : Value → Shared → Prop} {s s' : Shared} {B : Heap} {os : OsState} {G : Array GenState} {L : Addr} {m : Str → Option Value} {news news' : List Cell} {K : Frag}
theorem esc_stage {c r x : Str} {t : Tok} {a : Nat} {p1 p2 p3 p4 p5 p6 p7 p8 p9 p10 p11 : Pos} {k1 k2 k3 : Nat} {qual : Str} {scope : Scope} {f : Addr} {cd : Value} {Q : Flow → Shared → Prop} (S : St B os G L m news s) (hm : m (txt "text") = some (.str x t)) (hx : x.length ≤ a) (hb : a + (a + 1) * r.length ≤ 16777216) (hcr : (c == r) = false)
    (k : ∀ t' s' m', m' (txt "text") = some (.str (esc1 c r x) t') → St B os G L m' news s' → Q .next s')
    (hline : (p6.endLine == p9.line) = true) (hkd : scope.kind = .function) (hl : (envOf qual scope L f cd).kindOf (txt "text") = some .local) :
    wpAny (model prog w) A (exec (.If (.Compare (.Constant (.str c) k1 p1) [.In] [.Name (txt "text") p2] p3) [.Assign [.Name (txt "text") p4] (.Call (.Attribute (.Name (txt "text") p5) (txt "replace") p6) [.Constant (.str c) k2 p7, .Constant (.str r) k3 p8] [] p9) p10] [] p11) (envOf qual scope L f cd)) Q E s := by
  refine wpAny_If (wpAny_isTrue_Compare1 (wpAny_Constant_str (ld S.F hm ?_ hkd hl)) (by rfl))
  refine SB.contains (wpAny_truthy_bool ?_)
  cases hc : Txt.contains x c with
  | false =>
    rw [if_false' rfl]
    refine wpAny_execs_nil (k t _ m ?_ S.tk)
    rw [esc1, hc, if_neg (by decide)]; exact hm
  | true =>
    rw [if_true' rfl]
    refine wpAny_execs_cons (wpAny_Assign_Name ?_)
    refine methodCall_S rfl rfl hline (ld (S.tk (t := s.toks + 1)).F hm (fun pl => ?_) hkd hl)
    refine GM.replace ?_
    refine callWith_method1 ?_
    refine spliced_more (wpAny_Constant_str ?_)
    refine spliced_more (wpAny_Constant_str ?_)
    refine spliced_none ?_
    have hxb : x.length + (x.length + 1) * r.length ≤ 16777216 := by
      have : (x.length + 1) * r.length ≤ (a + 1) * r.length := Nat.mul_le_mul_right _ (by omega)
      omega
    refine SC.replace (Nat.succ_ne_zero _) (Nat.succ_ne_zero _) (Nat.ne_of_lt (Nat.lt_succ_self _)) hcr hxb (fun t' kk => ?_)
    refine stS (S.tk) (fun s S => ?_) hkd hl
    refine wpAny_execs_nil (k t' _ _ ?_ S)
    show (if _ then _ else _) = _
    rw [esc1, hc, if_pos rfl, if_pos rfl]
end
end Mine
end
section
open PySem PySem.W PySem.Calls PyProof.Rows
set_option Elab.async false
set_option maxRecDepth 100000
set_option linter.unusedVariables false
namespace Mine
section
variable {prog : Program} {w : World} {A : Around} {E : Value → Shared → Prop} {s s' : Shared} {B : Heap} {os : OsState} {G : Array GenState} {L : Addr} {m : Str → Option Value} {news news' : List Cell} {K : Frag} {env : Env}
theorem kl_last_snoc (p : List Value) (y : Value) : kl_last (p ++ [y]) = some (p, y) := by
  induction p with
  | nil => rfl
  | cons x r ih =>
    show kl_last (x :: (r ++ [y])) = _
    unfold kl_last
    rw [ih]
theorem popM {D : Addr} {its : Array Value} {n : Nat} {pl : Sem Bool} {Q : Value × List Value → Shared → Prop} (S : St B os G L m news s) (hl : (D, listOf its n) ∈ news) (h : Q (.builtin "list.pop", [.ref D]) s) : wpAny (model prog w) A (getMethod (.ref D) "pop" pl) Q E s :=
  kl_method S.N hl PySem.F.slot_list_pop PySem.F.type_list_pop h
theorem popL {D : Addr} {p : List Value} {y : Value} {n : Nat} {Q : Value → Shared → Prop} (S : St B os G L m news s) (U : Up D (listOf (p ++ [y]).toArray n) (listOf p.toArray (n + 1)) news news') (hz : p.length < 100000)
    (h : ∀ s', St B os G L m news' s' → Q y s') : wpAny (model prog w) A (call (.builtin "list.pop") [.ref D]) Q E s :=
  kl_pop (its := (p ++ [y]).toArray) S.F S.N (kl_last_snoc p y) (U.upd S.nd) (by simp [PySem.sizeLine_eq]; omega) (fun h' F' N' => h _ (S.to (s' := { s with heap := h' }) F' N' U.keys))
theorem popE {D : Addr} {l p : List Value} {y : Value} {n : Nat} {Q : Value → Shared → Prop} (S : St B os G L m news s) (he : l = p ++ [y]) (U : Up D (listOf l.toArray n) (listOf p.toArray (n + 1)) news news') (hz : p.length < 100000)
    (h : ∀ s', St B os G L m news' s' → Q y s') : wpAny (model prog w) A (call (.builtin "list.pop") [.ref D]) Q E s := by
  subst he
  exact popL S U hz h
theorem tupItem {value slice : PySem.Expr} {t : Addr} {items : Array Value} {i : Nat} {u : Tok} {x : Value} {Q : Value → Shared → Prop} (S : St B os G L m news s) (ht : (t, tupO items) ∈ news) (hi : items[i]? = some x) (h : Q x s)
    (hs : subscripted slice false (.ref t) (.int i u) = operate [.ref t, .int i u] (getItem (.ref t) (.int i u)) := by with_unfolding_all rfl) (hfit : i < 1000 := by decide) : wpAny (model prog w) A (subscriptTail value slice (.ref t) (.int i u)) Q E s := by
  have hlt : i < items.size := (Array.getElem?_eq_some_iff.mp hi).1
  refine subscriptTail_builtinR (T := "tuple") ⟨_, S.get ht, rfl⟩ slot_tuple_getitem.lookup (PyProof.Rows.getItem_tuple (Q := fun r s' => r = x ∧ Q r s') (j := i) ⟨_, S.get ht, rfl, 0, rfl⟩ (by omega) (by omega) ?_ hi ⟨rfl, h⟩) hs
  unfold seqIndex?
  simp
  omega
theorem lenL {D : Addr} {l : List Value} {n : Nat} {Q : Value → Shared → Prop} (S : St B os G L m news s) (hl : (D, listOf l.toArray n) ∈ news) (hz : l.length < 1000000) (h : ∀ t s', St B os G L m news s' → Q (.int l.length t) s') : wpAny (model prog w) A (call (.builtin "len") [.ref D]) Q E s :=
  PyProof.Rows.len_list (listOf_isList (S.get hl)) (by simp; omega) (by rw [List.size_toArray]; exact h _ _ S.tk)
/-- a store to an attribute that is there -/
theorem setK {x C dx : Addr} {od : Obj} {sl : Array (Option Value)} {am : Str → Option Value} {name : Str} {v v0 : Value} {k : Nat} {news' : Obj → List Cell} {Q : Unit → Shared → Prop} (S : St B os G L m news s) (X : K.In B)
    (hx : (x, (⟨.ref C, some dx, .plain, sl⟩ : Obj)) ∈ news) (U : ∀ od', Up dx od od' news (news' od')) (ho : NsZ k od am) (hz : k < 1000) (h0 : am name = some v0)
    (hs : findIn K (.ref C) "__setattr__" = some (some (.builtin "object.__setattr__"))) (hp : plainOver K C = true) (ht : takerIn K C name = some none) (hh : hasDictIn K C = true)
    (h : ∀ od' s', NsZ k od' (fun y => if y = name then some v else am y) → St B os G L m (news' od') s' → Q () s') : wpAny (model prog w) A (setAttr (.ref x) name v) Q E s :=
  setS S X hx U ho hz hs hp ht hh (fun od' s' hz S => h od' s' (by rw [h0] at hz; exact hz) S)
variable {σ : W4} {r : List Cell} {C x : Addr} {am : Str → Option Value} {name : Str} {v : Value}
theorem attrW {attr : Option Value} {expr : Bool} {Q : Value → Shared → Prop} (S : St B os G L m (σ.cells C ++ r) s) (X : K.In B) (e1 : σ.x = x) (ho : NsO σ.od am) (hg : plainGet K C name = true) (hh : hasDictIn K C = true) (ha : findIn K (.ref C) name = some attr) (hn : noGet K attr = true)
    (hv : am name = some v) (hv' : handedIn v = true) (h : ∀ s', St B os G L m (σ.cells C ++ r) s' → Q v s') : wpAny (model prog w) A (getAttr (.ref x) name expr) Q E s := by
  subst e1
  exact attrS S X (.head _) (.tail _ (.head _)) ho hg hh ha hn hv hv' h
theorem methW {f : Addr} {pl : Sem Bool} {Q : Value × List Value → Shared → Prop} (S : St B os G L m (σ.cells C ++ r) s) (X : K.In B) (e1 : σ.x = x) (ho : NsO σ.od am) (hg : plainGet K C name = true) (hf : findIn K (.ref C) name = some (some (.ref f))) (ht : isFn K (.ref f) = true)
    (hv : am name = none) (h : Q (.ref f, [.ref x]) s) : wpAny (model prog w) A (getMethod (.ref x) name pl) Q E s := by
  subst e1
  exact methS S X (.head _) (.tail _ (.head _)) ho hg hf ht hv h
theorem setW {v0 : Value} {Q : Unit → Shared → Prop} (S : St B os G L m (σ.cells C ++ r) s) (X : K.In B) (e1 : σ.x = x) (ho : NsZ 20 σ.od am) (h0 : am name = some v0)
    (hs : findIn K (.ref C) "__setattr__" = some (some (.builtin "object.__setattr__"))) (hp : plainOver K C = true) (ht : takerIn K C name = some none) (hh : hasDictIn K C = true)
    (h : ∀ od' s', NsZ 20 od' (fun y => if y = name then some v else am y) → St B os G L m ({ σ with od := od' }.cells C ++ r) s' → Q () s') : wpAny (model prog w) A (setAttr (.ref x) name v) Q E s := by
  subst e1
  exact setK S X (.head _) (fun od' => .tail .head) ho (by decide) h0 hs hp ht hh h
end
end Mine
end
section
open PySem PySem.W PySem.Calls PyProof.Rows
set_option Elab.async false
set_option maxRecDepth 100000
set_option linter.unusedVariables false
namespace Mine
abbrev dictO (es : Array DictEntry) (n : Nat) : Obj := { cls := .type "dict", data := .dict es n }
section
variable {prog : Program} {w : World} {A : Around} {E : Value → Shared → Prop} {s s' : Shared} {B : Heap} {os : OsState} {G : Array GenState} {L : Addr} {m : Str → Option Value} {news news' : List Cell} {K : Frag} {env : Env}
theorem setAddS {a : Addr} {o : Obj} {T : Str → Bool} {n : Nat} {k : Str} {t : Tok} {news' : Obj → List Cell} {Q : Bool → Shared → Prop} (S : St B os G L m news s) (U : ∀ o', Up a o o' news (news' o')) (ho : SetO prog w o T n) (hn : n + 1 < scanBound)
    (h : ∀ o' s', SetO prog w o' (fun k' => T k' || decide (k' = k)) (if T k then n else n + 1) → St B os G L m (news' o') s' → Q (!T k) s') : wpAny (model prog w) A (setAdd a (.str k t)) Q E s := by
  unfold setAdd
  refine wpAny_holding (wpAny_bind ((strKind prog w).pyHash (isStrOf_str k t prog w) ?_))
  refine wpAny_setAddHashed_of (s := { s with toks := s.toks + 1 }) (isStrOf_str k t prog w) rfl (ho.heap (S.get (U o).mem)) hn (fun h' hs hS => ?_)
  obtain ⟨o', e, ho'⟩ := setOf_o hS
  exact h o' _ ho' (S.same (t := s.toks + 1) (U o') hs e)
abbrev set0 (led : Bool) : Obj := { cls := .type "set", dict := none, data := .set #[] 0 (.fresh 0 0 led) }
theorem layFirst (led : Bool) (h : Int) (x : Value) : (layNew (.fresh 0 0 led) #[] h x).2.1.dummies = #[] ∧ 7 ≤ (layNew (.fresh 0 0 led) #[] h x).2.1.mask ∧ (layNew (.fresh 0 0 led) #[] h x).2.1.led = led := by
  unfold layNew
  split
  · rename_i slot wd _
    have hz : SetTable.has (SetTable.fresh 0 0 led).dummies slot = false := by simp [SetTable.has, SetTable.fresh]
    simp only [SetTable.put, SetTable.orStandIn, hz, Bool.false_eq_true, if_false]
    split
    · exact ⟨rfl, Nat.le_refl _, rfl⟩
    · refine ⟨rfl, ?_, rfl⟩
      simp [SetTable.standIn, SetTable.insertAt]
  · exact ⟨rfl, by simp [SetTable.standIn], rfl⟩
/-- the first text put into a new set -/
theorem setFirst {a : Addr} {led : Bool} {k : Str} {t : Tok} {Q : Bool → Shared → Prop} (hg : s.heap.get? a = some (set0 led))
    (h : ∀ es tb, tb.dummies = #[] → 7 ≤ tb.mask → tb.fits 1 = true → tb.led = led → es.toList = [((strKind prog w).hash k, .str k t)] → Q true { s with heap := s.heap.update a (Obj.putSet es tb), toks := s.toks + 1 }) : wpAny (model prog w) A (setAdd a (.str k t)) Q E s := by
  unfold setAdd
  refine wpAny_holding (wpAny_bind ((strKind prog w).pyHash (isStrOf_str k t prog w) ?_))
  unfold setAddHashed setAddHashedIn
  refine wpAny_holding (wpAny_bind (wpAny_setState_of (s := { s with toks := s.toks + 1 }) hg rfl rfl ?_))
  dsimp only
  have hb : byScan (.str k t) #[] = true := by simp [byScan, Value.scannable, scanBound]
  rw [hb]
  simp only [↓reduceIte]
  unfold setAddByScan
  refine wpAny_bind ?_
  refine wpAny_bind (wpAny_rule ?_)
  refine wpAny_bind (wpAny_of_eq (a := ScanMet.absent) (by simp [setScan, setScanStrs]) ?_)
  dsimp only
  have hgw : ∀ (b : Bool) {s₁ : Shared} {Q' : Unit → Shared → Prop}, Q' () s₁ → wpAny (model prog w) A (match b with | true => rule "set.scan.the-table-gave-way" | false => pure ()) Q' E s₁ :=
    fun b s₁ Q' hq => by cases b <;> first | exact wpAny_pure hq | exact wpAny_rule hq
  have hperm := layNew_perm (.fresh 0 0 led) #[] ((strKind prog w).hash k) (.str k t)
  have hfits := layNew_fits (.fresh 0 0 led) #[] ((strKind prog w).hash k) (.str k t)
  obtain ⟨hd1, hd2, hd3⟩ := layFirst led ((strKind prog w).hash k) (.str k t)
  generalize hL : layNew (.fresh 0 0 led) #[] ((strKind prog w).hash k) (.str k t) = L at hperm hfits hd1 hd2 hd3 ⊢
  obtain ⟨es1, t1, wasDummy, gave⟩ := L
  dsimp only at hperm hfits hd1 hd2 hd3 ⊢
  have hes : es1.toList = [((strKind prog w).hash k, .str k t)] := by
    have : es1.toList.Perm [((strKind prog w).hash k, .str k t)] := by simpa using hperm
    exact List.perm_singleton.mp this
  have hsz : es1.size = 1 := by rw [← Array.length_toList, hes]; rfl
  rw [hsz] at hfits
  refine wpAny_bind (hgw _ ?_)
  have hend : ∀ (tb : SetTable) (rest : Sem (Option Bool)), tb.dummies = #[] → 7 ≤ tb.mask → tb.fits 1 = true → tb.led = led → wpAny (model prog w) A (storeSet a es1 tb >>= fun _ => if (!wasDummy && tb.tooFull) = true then rest else pure (some true)) (fun r s' => wpAny (model prog w) A (match r with | some added => pure added | none => setAddHashedIn a (.str k t) ((strKind prog w).hash k) 99999) Q E s') E { s with toks := s.toks + 1 } := by
    intro tb rest h1 h2 h3 h3'
    refine wpAny_bind (wpAny_storeSet_of (s := { s with toks := s.toks + 1 }) hg rfl ?_ (by rw [hsz]; decide))
    have hf : tb.tooFull = false := by
      have h4 : tb.place.size = 1 := by
        simp only [SetTable.fits, Bool.and_eq_true, beq_iff_eq] at h3
        exact h3.1
      simp only [SetTable.tooFull, SetTable.fill, h1, h4]
      simp
      omega
    rw [hf, Bool.and_false, if_neg (by decide)]
    exact wpAny_pure (wpAny_pure (h es1 tb h1 h2 h3 h3' hes))
  split
  · refine wpAny_bind ?_
    rw [hashByValue_scannable 8 rfl]
    refine wpAny_pure ?_
    refine hend (if plainKind (.str k t) = true then t1 else { t1 with plain := false }) _ ?_ ?_ ?_ ?_
    · split <;> exact hd1
    · split <;> exact hd2
    · split <;> exact hfits
    · split <;> exact hd3
  · refine wpAny_bind (wpAny_pure ?_)
    exact hend t1 _ hd1 hd2 hfits hd3
/-- a set of one text -/
structure One (prog : Program) (w : World) (o : Obj) (k : Str) (t : Tok) : Prop where
  ex : ∃ es ep tb, o = { cls := .type "set", dict := none, data := .set es ep tb } ∧ tb.dummies = #[] ∧ 7 ≤ tb.mask ∧ tb.fits 1 = true ∧ es.toList = [((strKind prog w).hash k, .str k t)] ∧ tb.led = !w.params.followText "set-order"
theorem starEmpty {a D : Addr} {o : Obj} {k : Str} {t : Tok} {ep : Nat} {Q : Unit → Shared → Prop} (hh : A.handled = none) (S : St B os G L m news s) (ha : (a, o) ∈ news) (hD : (D, dictO #[] ep) ∈ news) (ho : One prog w o k t) (hne : (D == sysModules) = false)
    (h : ∀ s', St B os G L m news s' → Q () s') : wpAny (model prog w) A (setDisplayStar a (.ref D)) Q E s := by
  have hT : s.TypeIs (.ref D) "dict" := ⟨_, S.get hD, rfl⟩
  have f1 : isSubtype (.type "dict") (.type "set") = pure false := by rw [isSubtype_type]; kernel_rfl
  have f2 : isSubtype (.type "dict") (.type "frozenset") = pure false := by rw [isSubtype_type]; kernel_rfl
  have hm : s.heap.DictAt (strKind prog w) D [] ep := ⟨_, #[], S.get hD, ⟨rfl, rfl, rfl⟩, rfl, (fun e he => by simp at he), .nil, List.nodup_nil⟩
  unfold setDisplayStar
  repeat (any_goals (first | assumption | wp_step))
  refine wpAny_askSetting ?_
  show wpAny _ _ (match if w.params.followText _ = true then Value.none else Value.ref D with | .ref a_2 => _ | _ => _) _ _ _
  cases hf : w.params.followText "set-display-star-reads-storage" with
  | false =>
    show wpAny _ _ (typeOf (.ref D) >>= _) _ _ _
    refine wpAny_bind (wpAny_typeOf hT ?_)
    show wpAny _ _ (rule _ >>= _) _ _ _
    refine wpAny_bind (wpAny_rule ?_)
    rw [hne]
    show wpAny _ _ (dictEpoch D >>= _) _ _ _
    refine wpAny_bind (wpAny_dictEpoch (S.get hD) rfl ?_)
    refine wpAny_bind (wpAny_dictEntries (S.get hD) rfl ?_)
    obtain ⟨es, ep', tb, rfl, h1, h2, h3, h4, _⟩ := ho.ex
    have h5 : es.size = 1 := by rw [← Array.length_toList, h4]; rfl
    have h6 : tb.place.size = 1 := by
      simp only [SetTable.fits, Bool.and_eq_true, beq_iff_eq] at h3
      exact h3.1
    unfold setRoomFor
    refine wpAny_bind (wpAny_bind (wpAny_setState_of (S.get ha) rfl (by rw [h5]; exact h3) ?_))
    have hr : tb.roomFor 0 = none := by
      simp only [SetTable.roomFor, SetTable.fill, h1, h6]
      rw [if_neg]
      simp
      omega
    simp only [hr, Array.size_empty]
    refine wpAny_pure ?_
    refine wpAny_bind (wpAny_of_eq (a := PUnit.unit) (by simp) ?_)
    first | exact h _ S | exact wpAny_pure (h _ S)
  | true =>
    show wpAny _ _ (pyIter (.ref D) >>= _) _ _ _
    refine wpAny_bind (wpAny_pyIter_dict hne hm ?_)
    refine wpAny_bind (wpAny_runValue (codeAny_builtin PyProof.Rows.F.entry_set_update_loop ?_))
    rw [Around.under_plainId PyProof.Rows.F.plain_set_update_loop _]
    refine wpAny_bind (wpAny_pyNext_dict_end (knd := strKind prog w) (kvs := []) (i := 0) hh ⟨_, Heap.get?_push_size _ rfl, rfl, rfl⟩ (hm.push _) rfl (fun h' hx => ?_))
    refine wpAny_pure (wpAny_pure (h _ ?_))
    exact S.ext (t := s.toks) fun b o e => hx b o (Nat.ne_of_lt (Heap.lt_size e)) (Heap.get?_push_of_some _ e)
theorem newSetLed {Q : Value → Shared → Prop} (h : Q (.ref s.heap.objs.size) { s with heap := s.heap.push (set0 (!w.params.followText "set-order")) }) : wpAny (model prog w) A (newSet (.type "set")) Q E s := by
  unfold newSet setsByText
  refine wpAny_bind (wpAny_bind (wpAny_askSetting (wpAny_pure ?_)))
  exact wpAny_newObj_type h
/-- a set display of a text and of what an empty dict holds -/
theorem setDispS {e1 e2 : PySem.Expr} {p1 pos : Pos} {k0 : Nat} {D : Addr} {k : Str} {t : Tok} {ep : Nat} {Q : Value → Shared → Prop} (hh : A.handled = none) (S : St B os G L m news s) (X : K.In B) (hc : kdsCode K env.code = true) (hroad : (displayRoad k0 [e1, .Starred e2 p1] == .constants) = false) (hroad2 : (displayRoad k0 [e1, .Starred e2 p1] == .unsure) = false)
    (he : starEach [e1, .Starred e2 p1] env = [(false, eval e1 env), (true, eval e2 env)]) (hD : (D, dictO #[] ep) ∈ news) (hne : (D == sysModules) = false)
    (h1 : ∀ a led s', St B os G L m ((a, set0 led) :: news) s' → wpAny (model prog w) A (eval e1 env) (fun v s₁ => v = .str k t ∧ St B os G L m ((a, set0 led) :: news) s₁ ∧ ∀ o s₂, One prog w o k t → St B os G L m ((a, o) :: news) s₂ → wpAny (model prog w) A (eval e2 env) (fun v s₃ => v = .ref D ∧ St B os G L m ((a, o) :: news) s₃ ∧ ∀ s₄, St B os G L m ((a, o) :: news) s₄ → Q (.ref a) s₄) E s₂) E s') :
    wpAny (model prog w) A (eval (.Set [e1, .Starred e2 p1] k0 pos) env) Q E s := by
  rw [arm_eval_Set]
  refine wpAny_bind (wpAny_standAt ?_)
  refine wpAny_bind (kds_main (S.X X) hc fun b => ?_)
  rw [he]
  unfold setDisplay
  dsimp only
  rw [if_neg (by rw [hroad]; exact Bool.false_ne_true)]
  refine wpAny_bind (newSetLed ?_)
  generalize hled : (!w.params.followText "set-order") = led
  have S0 := S.push (t := s.toks) (set0 led)
  dsimp only
  refine wpAny_bind (wpAny_holding ?_)
  show wpAny _ _ (evalAll [do let v ← eval e1 env; standAt pos; pure v] >>= _) _ _ _
  refine wpAny_bind ?_
  show wpAny _ _ ((eval e1 env >>= fun v => standAt pos >>= fun _ => pure v) >>= fun v => holding [v] (pure []) >>= fun r => pure (v :: r)) _ _ _
  refine wpAny_bind (wpAny_bind (wpAny_mono (h1 _ led _ S0) ?_ fun _ _ z => z))
  rintro v s₁ ⟨rfl, S1, h2⟩
  refine wpAny_bind (wpAny_standAt (wpAny_pure ?_))
  refine wpAny_bind (wpAny_holding (wpAny_pure (wpAny_pure ?_)))
  refine wpAny_bind (wpAny_holding ?_)
  refine wpAny_bind ?_
  rw [List.forIn_cons]
  refine wpAny_bind (wpAny_bind (setFirst (S1.get (.head _)) (fun es tb d1 d2 d3 d5 d4 => ?_)))
  have S2 : St B os G L m ((s.heap.objs.size, (⟨.type "set", none, .set es 1 tb, #[]⟩ : Obj)) :: news) _ := S1.same (t := s₁.toks + 1) (h' := s₁.heap.update s.heap.objs.size (Obj.putSet es tb)) Up.head (Heap.SameBut.update ..) (by
    rw [Heap.get?_update_self _ (S1.get (.head _)) (by rw [putSet_of es tb rfl]; rfl), putSet_of es tb rfl])
  have h3 := h2 _ _ ⟨es, 1, tb, rfl, d1, d2, d3, d4, d5.trans hled.symm⟩ S2
  refine wpAny_pure ?_
  show wpAny _ _ (forIn [] PUnit.unit _) _ _ _
  rw [List.forIn_nil]
  refine wpAny_pure ?_
  rw [hroad2, if_neg Bool.false_ne_true]
  refine wpAny_pure ?_
  show wpAny _ _ (forIn [(true, do let v ← eval e2 env; standAt pos; pure v)] PUnit.unit _ >>= _) _ _ _
  refine wpAny_bind ?_
  rw [List.forIn_cons]
  refine wpAny_bind (wpAny_bind (wpAny_bind (wpAny_mono h3 ?_ fun _ _ z => z)))
  rintro v s₃ ⟨rfl, S3, h4⟩
  refine wpAny_bind (wpAny_standAt (wpAny_pure ?_))
  rw [if_pos rfl]
  refine wpAny_bind (wpAny_holding (starEmpty hh S3 (.head _) (.tail _ hD) ⟨es, 1, tb, rfl, d1, d2, d3, d4, d5.trans hled.symm⟩ hne (fun s S => ?_)))
  refine wpAny_pure ?_
  show wpAny _ _ (forIn [] PUnit.unit _) _ _ _
  rw [List.forIn_nil]
  exact wpAny_pure (wpAny_pure (wpAny_pure (h4 _ S)))
end
end Mine
end
section
open PySem PySem.W PySem.Calls PyProof.Rows PySem.Spec
set_option Elab.async false
set_option maxRecDepth 100000
set_option linter.unusedVariables false
namespace Mine
theorem Up.hd_or {d : Addr} {o o' : Obj} {p : Cell} {r l' : List Cell} (u : Up d o o' (p :: r) l') : (p = (d, o) ∧ l' = (d, o') :: r) ∨ ∃ r', l' = p :: r' ∧ Up d o o' r r' := by
  cases u with
  | head => exact .inl ⟨rfl, rfl⟩
  | tail u => exact .inr ⟨_, rfl, u⟩
theorem upF {d : Addr} {o : Obj} : ∀ {l : List Cell} {l' : Obj → List Cell}, (∀ o', Up d o o' l (l' o')) → (l.map (·.1)).Nodup → UpdF d o l l'
  | [], l', U, _ => nomatch U o
  | p :: r, l', U, nd => by
    rw [List.map_cons, List.nodup_cons] at nd
    by_cases h : p.1 = d
    · have hh : ∀ o', p = (d, o) ∧ l' o' = (d, o') :: r := fun o' => by
        rcases (U o').hd_or with x | ⟨r', _, u⟩
        · exact x
        · exact absurd (by rw [h]; exact List.mem_map_of_mem (f := Prod.fst) u.mem) nd.1
      have e : l' = fun o' => (d, o') :: r := funext fun o' => (hh o').2
      rw [e, (hh o).1]
      exact .head fun q hq e => nd.1 (by rw [h, ← e]; exact List.mem_map_of_mem (f := Prod.fst) hq)
    · have hh : ∀ o', l' o' = p :: (l' o').tail ∧ Up d o o' r (l' o').tail := fun o' => by
        rcases (U o').hd_or with ⟨e, _⟩ | ⟨r', e, u⟩
        · exact absurd (by rw [e]) h
        · rw [e]; exact ⟨rfl, u⟩
      have e : l' = fun o' => p :: (l' o').tail := funext fun o' => (hh o').1
      rw [e]
      exact .tail h (upF (fun o' => (hh o').2) nd.2)
structure Lam (B : Heap) (c P : Addr) : Prop where
  top : ∃ p loose mean mg mb, Top p loose mean mg mb B
  code : CodeHd B c P
/-- a record of a code with the name q -/
def CodeO (oc : Obj) (q : Str) : Prop := ∃ vs t, oc.data = .fields vs ∧ vs[1]? = some (.str q t)
section
variable {prog : Program} {w : World} {A : Around} {E : Value → Shared → Prop} {s s' : Shared} {B : Heap} {os : OsState} {G : Array GenState} {L a c P : Addr} {m : Str → Option Value} {news : List Cell} {news' : Obj → List Cell} {K : Frag}
  {cn : Str} {cs : Scope} {ccd : Value} {params : Arguments} {body : PySem.Expr} {scope : Scope} {pos : Pos} {ps : Array Value} {cl : List (Str × Addr)}
theorem lam1 {Q : Value → Shared → Prop} (H : Lam B c P) (S : St B os G L m news s) (hcd : ccd = .ref c) (U : ∀ o', Up P (tabObj ps) o' news (news' o')) (ht : TriplesOk ps.toList) (hnf : codeAmong pos ps.toList = none) (hcl : closureFor scope (envX cn cs L a ccd cl) = pure []) (hdef : defaultsOf params (envX cn cs L a ccd cl) = ([], []))
    (h : ∀ f c' oc pm ctv s', CodeO oc ((envX cn cs L a ccd cl).qual ++ "<lambda>") → St B os G L m ((f, kla_obj "<lambda>" ((envX cn cs L a ccd cl).qual ++ "<lambda>") params body scope [] pm c' ctv) :: (c', oc) :: news' (tabObj (ps ++ #[rawInt pos.line, rawInt pos.col, .ref c']))) s' → Q (.ref f) s') :
    wpAny (model prog w) A (eval (.Lambda params body scope pos) (envX cn cs L a ccd cl)) Q E s := by
  obtain ⟨p, loose, mean, mg, mb, T⟩ := H.top
  refine kla_eval hdef (kla_nest (clos := []) S.F S.N T H.code hcd (upF U S.nd) ht hnf hcl (fun f c' oc vs t ctv h' tk F' N' hd1 hd2 l1 l2 => h f c' oc _ ctv _ ⟨vs, t, hd1, hd2⟩ ⟨F', N', ?_, S.gens, S.bare, S.os⟩))
  have lt' : ∀ q ∈ news' (tabObj (ps ++ #[rawInt pos.line, rawInt pos.col, .ref c'])), q.1 < c' := by
    intro q hq
    have : q.1 ∈ (news' (tabObj (ps ++ #[rawInt pos.line, rawInt pos.col, .ref c']))).map (·.1) := List.mem_map_of_mem (f := Prod.fst) hq
    rw [(U _).keys] at this
    obtain ⟨q', hq', e⟩ := List.mem_map.mp this
    rw [← e]; exact l1 q' hq'
  rw [List.map_cons, List.map_cons, List.nodup_cons, List.nodup_cons]
  refine ⟨fun hm => ?_, fun hm => ?_, by rw [(U _).keys]; exact S.nd⟩
  · rcases List.mem_cons.mp hm with e | hm
    · exact absurd (show f = c' from e) (Nat.ne_of_gt l2)
    · obtain ⟨q, hq, e⟩ := List.mem_map.mp hm
      have h1 := lt' q hq
      rw [show q.1 = f from e] at h1
      exact absurd (Nat.lt_trans h1 l2) (Nat.lt_irrefl _)
  · obtain ⟨q, hq, e⟩ := List.mem_map.mp hm
    have h1 := lt' q hq
    rw [show q.1 = c' from e] at h1
    exact absurd h1 (Nat.lt_irrefl _)
theorem lam2 {c' : Addr} {Q : Value → Shared → Prop} (H : Lam B c P) (S : St B os G L m news s) (hcd : ccd = .ref c) (hmem : (P, tabObj ps) ∈ news) (ht : TriplesOk ps.toList) (hf : codeAmong pos ps.toList = some (.ref c')) (hcl : closureFor scope (envX cn cs L a ccd cl) = pure []) (hdef : defaultsOf params (envX cn cs L a ccd cl) = ([], []))
    (h : ∀ f pm ctv s', St B os G L m ((f, kla_obj "<lambda>" ((envX cn cs L a ccd cl).qual ++ "<lambda>") params body scope [] pm c' ctv) :: news) s' → Q (.ref f) s') :
    wpAny (model prog w) A (eval (.Lambda params body scope pos) (envX cn cs L a ccd cl)) Q E s := by
  obtain ⟨p, loose, mean, mg, mb, T⟩ := H.top
  refine kla_eval hdef (kla_hit (clos := []) S.F S.N T H.code hcd hmem ht hf hcl (fun f ctv h' tk F' N' l1 => h f _ ctv _ ⟨F', N', ?_, S.gens, S.bare, S.os⟩))
  rw [List.map_cons, List.nodup_cons]
  refine ⟨fun hm => ?_, S.nd⟩
  obtain ⟨q, hq, e⟩ := List.mem_map.mp hm
  have h1 := l1 q hq
  rw [show q.1 = f from e] at h1
  exact absurd h1 (Nat.lt_irrefl _)
/-- a call of a lambda -/
theorem call_lam {R : Result → Shared → Prop} {name qual : Str} {pm ctv : Value} {c' f : Addr} {oc : Obj} {args : Args} {binds : List (Str × Value)} (S : St B os G L m news s) (hlim : B.NoLimit) (ho : (f, kla_obj name qual params body scope [] pm c' ctv) ∈ news) (hc : (c', oc) ∈ news) (hco : CodeO oc qual) (hroom : A.depth < recursionLimit)
    (hbind : bindArgs (kla_fn name qual params body scope [] pm (.ref c') ctv) args = pure binds) (hloc : ∀ y ∈ binds, scope.names.lookup y.1 = some .local)
    (h : ∀ L' oL s', FrC B L oL m → St B os G L' (fun y => binds.reverse.lookup y) ((L, oL) :: news) s' →
      wpAny (model prog w) (A.deeper (envOf qual scope L' f (.ref c'))) (eval body (envOf qual scope L' f (.ref c'))) (fun v s' => R (.ok (.ret v)) s')
        (fun e s' => wpAny (model prog w) (A.deeper (envOf qual scope L' f (.ref c'))) (leaving (envOf qual scope L' f (.ref c')) e) (fun _ s'' => R (.error e) s'') (fun e' s'' => R (.error e') s'') s') s')
    (hco' : scope.isCoroutine = false := by rfl) (hgen : scope.isGenerator = false := by rfl) (hk : scope.kind = .function := by rfl) (hcell : ∀ x ∈ scope.names, x.2 ≠ .cell := by decide) : codeAny (model prog w) A (.call (.ref f) args) R s := by
  obtain ⟨vs, t, d1, d2⟩ := hco
  refine kla_callFunE hroom (S.get ho) rfl hco' hgen rfl ⟨c', oc, vs, t, rfl, S.get hc, d1, d2⟩ ?_
  rw [hbind]
  refine wpAny_pure (wpAny_newFunctionEnv hcell hloc (fun h₁ hns hsb => ⟨(hlim.keeps S.F.keep).fresh _ hsb, ?_⟩) hk)
  have hk₁ : ∀ b o, s.heap.get? b = some o → h₁.get? b = some o := fun b o e => hsb.extBut b o (Nat.ne_of_lt (Heap.lt_size e)) (Heap.get?_push_of_some _ e)
  obtain ⟨oL, fc, S'⟩ := S.enter (t := s.toks + binds.length) hns hk₁
  exact kla_codeExpr (h _ oL _ fc S')
end
end Mine
end
section
open PySem PySem.W PySem.Calls PyProof.Rows PySem.Spec
set_option Elab.async false
set_option maxRecDepth 100000
set_option linter.unusedVariables false
namespace Mine
theorem entry_set_iter : entryFor table "set.__iter__" = some Builtin.«frozenset.__iter__» :=
  entryFor_alias (id' := "frozenset.__iter__") (by kernel_rfl) rfl (by decide +kernel) (by kernel_rfl)
theorem args_set_iter (a : Value) : argsOk "set.__iter__" ⟨[a], []⟩ := by unfold argsOk; kernel_rfl
theorem slot_sit_next : Slot "set_iterator" "__next__" "set_iterator.__next__" :=
  .of (owner := "set_iterator") (n := "__next__") (by rw [typeLookup_type, builtinLookup_eq_fast]; kernel_rfl) (by decide +kernel) (by decide +kernel) (by decide +kernel)
    (by first | exact .inl (by decide +kernel) | exact .inr (by decide +kernel)) (by rw [isSubtype_type]; kernel_rfl)
theorem entry_sit_next : entryFor table "set_iterator.__next__" = some Builtin.«set_iterator.__next__» := entryFor_of_tree (by kernel_rfl)
theorem args_sit_next (a : Value) : argsOk "set_iterator.__next__" ⟨[a], []⟩ := by unfold argsOk; kernel_rfl
theorem pick1 {α : Type} (next : Nat → Nat) (xs : Array α) (x : α) (h : xs.toList = [x]) : (pickOrder next xs)[0]? = some x := by
  have hs : xs.size = 1 := by rw [← Array.length_toList, h]; rfl
  unfold pickOrder
  rw [hs, h]
  simp [pickOrder.go, Nat.mod_one]
theorem below0 (xs : Array Nat) (h : xs.size = 1) : SetTable.below xs 0 = 0 := by
  unfold SetTable.below
  rw [h]
  simp [SetTable.below.go]
theorem pick1e {α : Type} (next : Nat → Nat) (xs : Array α) (x : α) (h : xs.toList = [x]) : (pickOrder next xs)[1]? = none := by
  have hs : xs.size = 1 := by rw [← Array.length_toList, h]; rfl
  unfold pickOrder
  rw [hs, h]
  simp [pickOrder.go, Nat.mod_one]
theorem below1 (xs : Array Nat) (j k : Nat) (h : xs.toList = [j]) (hk : j < k) : SetTable.below xs k = 1 := by
  have hs : xs.size = 1 := by rw [← Array.length_toList, h]; rfl
  have hg : xs.getD 0 k = j := by
    rw [Array.getD_eq_getD_getElem?, ← Array.getElem?_toList, h]; rfl
  unfold SetTable.below
  rw [hs]
  simp only [SetTable.below.go]
  simp [hg, hk]
abbrev sitO (a : Addr) (i j : Nat) (ep : Nat) : Obj := { cls := .type "set_iterator", data := .fields #[rawInt j, rawInt i, .ref a, rawInt 1, rawInt ep] }
section
variable {prog : Program} {w : World} {A : Around} {E : Value → Shared → Prop} {h : Heap} {g : Array GenState} {d : Drawn} {t : Nat} {os : OsState} {a : Addr} {o : Obj}
theorem setIter1 {es : Array (Int × Value)} {ep : Nat} {tb : SetTable} {Q : Value → Shared → Prop} (hx : h.get? a = some { cls := .type "set", dict := none, data := .set es ep tb }) (hf : tb.fits 1 = true) (hs : es.size = 1)
    (hq : Q (.ref h.objs.size) ⟨h.push (sitO a 0 0 ep), g, d, t, os⟩) : wpAny (model prog w) A (pyIter (.ref a)) Q E ⟨h, g, d, t, os⟩ := by
  have hT : (⟨h, g, d, t, os⟩ : Shared).TypeIs (.ref a) "set" := ⟨_, hx, rfl⟩
  refine wpAny_pyIter_slot hT PySem.F.slot_set_iter ?_
  refine wpAny_call_entry PySem.F.slot_set_iter hT entry_set_iter ?_ (args_set_iter _)
  have hst : ∀ {A : Around} {E : Value → Shared → Prop} {Q : (Array (Int × Value) × Nat × SetTable) → Shared → Prop}, Q (es, ep, tb) ⟨h, g, d, t, os⟩ → wpAny (model prog w) A (setState a) Q E ⟨h, g, d, t, os⟩ := fun hq => wpAny_setState_of hx rfl (by rw [hs]; exact hf) hq
  repeat (any_goals (first | assumption | (with_reducible refine hst ?_) | wp_step))
  refine wpAny_askSetting ?_
  refine wpAny_pure (wpAny_pure ?_)
  rw [if_neg (by show ¬ ((_ && (!tb.plain && decide (es.size > 1))) = true); rw [hs]; simp)]
  unfold setEpoch
  repeat (any_goals (first | assumption | (with_reducible refine hst ?_) | wp_step))
  refine ⟨_, rfl, "set_iterator", .builtin "set_iterator.__next__", ⟨_, Heap.get?_push_size _ rfl, rfl⟩, slot_sit_next.lookup, ?_⟩
  rw [show ((es, ep, tb).fst.size) = 1 from hs]
  exact hq
theorem setNext1 {es : Array (Int × Value)} {ep : Nat} {tb : SetTable} {it : Addr} {x : Value} {hv : Int} {Q : Option Value → Shared → Prop} (hx : h.get? a = some { cls := .type "set", dict := none, data := .set es ep tb }) (hi : h.get? it = some (sitO a 0 0 ep)) (hf : tb.fits 1 = true) (hs : es.toList = [(hv, x)]) (hled : tb.led = !w.params.followText "set-order")
    (hq : ∀ j h', Heap.SameBut it h h' → h'.get? it = some (sitO a 1 j ep) → (0 < j ∨ w.params.followText "set-order" = true) → (∀ p ∈ tb.place.toList, p < j) ∨ w.params.followText "set-order" = true → Q (some x) ⟨h', g, d, t, os⟩) : wpAny (model prog w) A (pyNext (.ref it)) Q E ⟨h, g, d, t, os⟩ := by
  have hT : (⟨h, g, d, t, os⟩ : Shared).TypeIs (.ref it) "set_iterator" := ⟨_, hi, rfl⟩
  have hsz : es.size = 1 := by rw [← Array.length_toList, hs]; rfl
  have hst : ∀ {A : Around} {E : Value → Shared → Prop} {Q : (Array (Int × Value) × Nat × SetTable) → Shared → Prop}, Q (es, ep, tb) ⟨h, g, d, t, os⟩ → wpAny (model prog w) A (setState a) Q E ⟨h, g, d, t, os⟩ := fun hq => wpAny_setState_of hx rfl (by rw [hsz]; exact hf) hq
  unfold pyNext
  refine wpAny_bind (wpAny_attempt (wpAny_callSpecial?_slot (name := Str.ofString "__next__") hT slot_sit_next (wpAny_call_entry slot_sit_next hT entry_sit_next ?_ (args_sit_next _))))
  unfold Builtin.«set_iterator.__next__»
  refine wpAny_bind (wpAny_of_eq (a := (.ref it, [])) (by rfl) ?_)
  refine wpAny_bind (wpAny_fieldsOf hi rfl ?_)
  show wpAny _ _ (setEntries a >>= _) _ _ _
  unfold setEntries
  refine wpAny_bind (wpAny_bind (hst (wpAny_pure ?_)))
  rw [if_neg (by show ¬ (((es.size : Int) != 1) = true); rw [hsz]; decide)]
  show wpAny _ _ (setNext a 0 0 (ep : Int).toNat >>= _) _ _ _
  rw [Int.toNat_natCast]
  refine wpAny_bind ?_
  unfold setNext
  refine wpAny_bind (hst ?_)
  unfold setsByText
  refine wpAny_bind (wpAny_bind (wpAny_askSetting (wpAny_pure ?_)))
  have hp1 : tb.place.size = 1 := by
    simp only [SetTable.fits, Bool.and_eq_true, beq_iff_eq] at hf
    exact hf.1
  have fin : ∀ nx : Nat, (0 < nx ∨ w.params.followText "set-order" = true) → ((∀ p ∈ tb.place.toList, p < nx) ∨ w.params.followText "set-order" = true) → wpAny (model prog w) A.in1 (setField (.ref it) 0 (rawInt nx) >>= fun _ => setField (.ref it) 1 (rawInt 1) >>= fun _ => ret x) (fun fin s' => ∃ v, fin = .done (.ret v) ∧ wpAny (model prog w) A (pure (some v)) Q E s') (fun e s' => wpAny (model prog w) A (match Except.error e with | Except.ok (some v) => pure (some v) | Except.ok none => unsupported "iter:the-iterator's-class-has-lost-its-__next__-amid-the-walk" | Except.error e => do
      let __do_lift ← isInstance e (Value.type "StopIteration")
      if __do_lift = true then pure none else throw e) Q E s') ⟨h, g, d, t, os⟩ := by
    intro nx hn1 hn2
    refine wpAny_bind (wpAny_setField (s := ⟨h, g, d, t, os⟩) hi rfl (by show 0 < 5; decide) ?_)
    have e1 : (h.update it (Obj.mapFields (·.setIfInBounds 0 (rawInt nx)))).get? it = some (sitO a 0 nx ep) := Heap.get?_update_self _ hi rfl
    refine wpAny_bind (wpAny_setField (s := ⟨_, g, d, t, os⟩) e1 rfl (by show 1 < 5; decide) ?_)
    have e2 : ((h.update it (Obj.mapFields (·.setIfInBounds 0 (rawInt nx)))).update it (Obj.mapFields (·.setIfInBounds 1 (rawInt 1)))).get? it = some (sitO a 1 nx ep) := Heap.get?_update_self _ e1 rfl
    exact wpAny_pure ⟨_, rfl, wpAny_pure (hq nx _ ((Heap.SameBut.update ..).trans (Heap.SameBut.update ..)) e2 hn1 hn2)⟩
  cases hby : w.params.followText "set-order" with
  | true =>
    refine KFB.if_so hby ?_
    dsimp only
    rw [if_neg (by simp)]
    unfold setWalk
    refine wpAny_bind (wpAny_bind (hst ?_))
    unfold setsByText
    refine wpAny_bind (wpAny_bind (wpAny_askSetting (wpAny_pure ?_)))
    refine KFB.if_so hby ?_
    refine wpAny_bind (wpAny_askSetting (wpAny_pure ?_))
    refine wpAny_pure ?_
    rw [pick1 _ es _ hs]
    exact fin 0 (.inr hby) (.inr hby)
  | false =>
    rw [if_neg (by show ¬ (w.params.followText "set-order" = true); rw [hby]; decide)]
    dsimp only
    rw [if_neg (by show ¬ ((!tb.plain && decide (es.size > 1)) = true); rw [hsz]; simp)]
    refine wpAny_bind ?_
    show wpAny _ _ (if (!tb.led && !es.isEmpty) = true then unsupported "set:maker-not-led" else pure ()) _ _ _
    rw [hled, hby, if_neg (by simp)]
    refine wpAny_pure (wpAny_pure ?_)
    have hpl : ∃ j, tb.place.toList = [j] := by
      have : tb.place.toList.length = 1 := by rw [Array.length_toList]; exact hp1
      exact List.length_eq_one_iff.mp this
    obtain ⟨j, hj⟩ := hpl
    have g1 : es[SetTable.below tb.place 0]? = some (hv, x) := by rw [below0 _ hp1, ← Array.getElem?_toList, hs]; rfl
    have g2 : tb.place[SetTable.below tb.place 0]? = some j := by rw [below0 _ hp1, ← Array.getElem?_toList, hj]; rfl
    rw [g1, g2]
    exact fin (j + 1) (.inl (Nat.succ_pos _)) (.inl (by rw [hj]; intro p hp; rw [List.mem_singleton.mp hp]; exact Nat.lt_succ_self _))
theorem setEnd1 {es : Array (Int × Value)} {ep j : Nat} {tb : SetTable} {it : Addr} {x : Value} {hv : Int} {Q : Option Value → Shared → Prop} (hh : A.handled = none) (hx : h.get? a = some { cls := .type "set", dict := none, data := .set es ep tb }) (hi : h.get? it = some (sitO a 1 j ep)) (hf : tb.fits 1 = true) (hs : es.toList = [(hv, x)]) (hled : tb.led = !w.params.followText "set-order")
    (hj : (∀ p ∈ tb.place.toList, p < j) ∨ w.params.followText "set-order" = true)
    (hq : ∀ h', Heap.ExtBut it h h' → Q none ⟨h', g, d, t, os⟩) : wpAny (model prog w) A (pyNext (.ref it)) Q E ⟨h, g, d, t, os⟩ := by
  have hT : (⟨h, g, d, t, os⟩ : Shared).TypeIs (.ref it) "set_iterator" := ⟨_, hi, rfl⟩
  have hsz : es.size = 1 := by rw [← Array.length_toList, hs]; rfl
  have hst : ∀ {A : Around} {E : Value → Shared → Prop} {Q : (Array (Int × Value) × Nat × SetTable) → Shared → Prop}, Q (es, ep, tb) ⟨h, g, d, t, os⟩ → wpAny (model prog w) A (setState a) Q E ⟨h, g, d, t, os⟩ := fun hq => wpAny_setState_of hx rfl (by rw [hsz]; exact hf) hq
  unfold pyNext
  refine wpAny_bind (wpAny_attempt (wpAny_callSpecial?_slot (name := Str.ofString "__next__") hT slot_sit_next (wpAny_call_entry slot_sit_next hT entry_sit_next ?_ (args_sit_next _))))
  unfold Builtin.«set_iterator.__next__»
  refine wpAny_bind (wpAny_of_eq (a := (.ref it, [])) (by rfl) ?_)
  refine wpAny_bind (wpAny_fieldsOf hi rfl ?_)
  show wpAny _ _ (setEntries a >>= _) _ _ _
  unfold setEntries
  refine wpAny_bind (wpAny_bind (hst (wpAny_pure ?_)))
  rw [if_neg (by show ¬ (((es.size : Int) != 1) = true); rw [hsz]; decide)]
  show wpAny _ _ (setNext a (j : Int).toNat 1 (ep : Int).toNat >>= _) _ _ _
  rw [Int.toNat_natCast, Int.toNat_natCast]
  have hp1 : tb.place.size = 1 := by
    simp only [SetTable.fits, Bool.and_eq_true, beq_iff_eq] at hf
    exact hf.1
  refine wpAny_bind (wpAny_mono (Q := fun r s' => r = none ∧ s' = ⟨h, g, d, t, os⟩) ?_ ?_ fun _ _ z => z)
  · unfold setNext
    refine wpAny_bind (hst ?_)
    unfold setsByText
    refine wpAny_bind (wpAny_bind (wpAny_askSetting (wpAny_pure ?_)))
    cases hby : w.params.followText "set-order" with
    | true =>
      refine KFB.if_so hby ?_
      dsimp only
      rw [if_neg (by simp)]
      unfold setWalk
      refine wpAny_bind (wpAny_bind (hst ?_))
      unfold setsByText
      refine wpAny_bind (wpAny_bind (wpAny_askSetting (wpAny_pure ?_)))
      refine KFB.if_so hby ?_
      refine wpAny_bind (wpAny_askSetting (wpAny_pure ?_))
      refine wpAny_pure ?_
      rw [pick1e _ es _ hs]
      exact ⟨rfl, rfl⟩
    | false =>
      rw [if_neg (by show ¬ (w.params.followText "set-order" = true); rw [hby]; decide)]
      dsimp only
      rw [if_neg (by show ¬ ((!tb.plain && decide (es.size > 1)) = true); rw [hsz]; simp)]
      refine wpAny_bind ?_
      show wpAny _ _ (if (!tb.led && !es.isEmpty) = true then unsupported "set:maker-not-led" else pure ()) _ _ _
      rw [hled, hby, if_neg (by simp)]
      refine wpAny_pure (wpAny_pure ?_)
      obtain ⟨p, hp⟩ : ∃ p, tb.place.toList = [p] := List.length_eq_one_iff.mp (by rw [Array.length_toList]; exact hp1)
      have hlt : p < j := (hj.resolve_right (by rw [hby]; decide)) p (by rw [hp]; exact .head _)
      have g1 : es[SetTable.below tb.place j]? = none := by rw [below1 _ p j hp hlt, ← Array.getElem?_toList, hs]; rfl
      rw [g1]
      exact ⟨rfl, rfl⟩
  · rintro r s' ⟨rfl, rfl⟩
    show wpAny _ _ (setField (.ref it) 2 .none >>= _) _ _ _
    refine wpAny_bind (wpAny_setField (s := ⟨h, g, d, t, os⟩) hi rfl (by show 2 < 5; decide) ?_)
    show wpAny _ _ (newExc (.type "StopIteration") [] >>= _) _ _ _
    refine wpAny_bind ?_
    simp only [newExc, newTuple]
    refine wpAny_bind (wpAny_newObj_type ?_ (by size_fits))
    refine wpAny_bind (m := firstArgMember _ _) (wpAny_of_eq (a := Value.none) (by first | rfl | (simp only [firstArgMember]; rfl)) ?_)
    refine wpAny_newObj_type ?_ (by size_fits)
    simp only [raiseNew]
    refine wpAny_bind (wpAny_handled ?_)
    rw [show A.in1.handled = none from hh]
    refine wpAny_bind (wpAny_pure (wpAny_throw ?_))
    refine wpAny_bind (wpAny_isInstance (T := "StopIteration") (b := true) ⟨_, Heap.get?_push_size _ rfl, rfl⟩ isSubtype_stop ?_)
    exact wpAny_pure (hq _ (((Heap.SameBut.update ..).extBut.push _).push _))
end
end Mine
end
section
open PySem PySem.W PySem.Calls PyProof.Rows PySem.Spec
set_option Elab.async false
set_option maxRecDepth 100000
set_option linter.unusedVariables false
namespace Mine
section
variable {prog : Program} {w : World} {A : Around} {E : Value → Shared → Prop} {s s' : Shared} {B : Heap} {os : OsState} {G : Array GenState} {L a c P : Addr} {m : Str → Option Value} {news : List Cell} {o : Obj} {k : Str} {t : Tok}
theorem hintSet {Q : Bool → Shared → Prop} (hT : s.TypeIs (.ref a) "set") (h : Q false s) : wpAny (model prog w) A (Builtin.List.listLengthHint (.ref a)) Q E s := by
  have f1 := PySem.F.slot_set_len.lookup
  have f2 : isSubtype (.type "set") (.type "set") = pure true := by rw [isSubtype_type]; kernel_rfl
  have f3 : splitId "set.__len__" = some ("set", "__len__") := by decide +kernel
  unfold Builtin.List.listLengthHint
  refine wpAny_bind (wpAny_specialOf hT f1 ?_)
  dsimp only
  rw [f3]
  dsimp only
  refine wpAny_bind (wpAny_isInstance hT f2 ?_)
  refine KFB.if_not rfl ?_
  refine KFB.if_so (by decide +kernel) ?_
  refine wpAny_bind (wpAny_typeOf hT ?_)
  exact wpAny_pure h
theorem updL {D : Addr} {its : Array Value} {n : Nat} {f : Array Value → Array Value} {news' : Nat → List Cell} {Q : Unit → Shared → Prop} (S : St B os G L m news s) (U : ∀ n', Up D (listOf its n) (listOf (f its) n') news (news' n')) (h : ∀ n' s', St B os G L m (news' n') s' → Q () s') (h1 : its.size ≤ sizeLine) (h2 : (f its).size ≤ sizeLine + 1) :
    wpAny (model prog w) A (Builtin.List.listUpdate (.ref D) f) Q E s := by
  have hD := S.get (U 0).mem
  obtain ⟨n', e⟩ := mapSeq_any f its n
  exact listUpdate_at hD rfl (h n' _ (S.same (t := s.toks) (U n') (Heap.SameBut.update ..) (by rw [Heap.get?_update_self _ hD (by rw [e]; rfl), e]))) h1 h2
theorem nextOneS {es : Array (Int × Value)} {ep : Nat} {tb : SetTable} {it : Addr} {x : Value} {hv : Int} {news' : Obj → List Cell} {Q : Option Value → Shared → Prop} (S : St B os G L m news s) (hx : (a, (⟨.type "set", none, .set es ep tb, #[]⟩ : Obj)) ∈ news) (U : ∀ o', Up it (sitO a 0 0 ep) o' news (news' o')) (hf : tb.fits 1 = true) (hs : es.toList = [(hv, x)]) (hled : tb.led = !w.params.followText "set-order")
    (h : ∀ j s', ((∀ p ∈ tb.place.toList, p < j) ∨ w.params.followText "set-order" = true) → St B os G L m (news' (sitO a 1 j ep)) s' → Q (some x) s') : wpAny (model prog w) A (pyNext (.ref it)) Q E s := by
  have h1 := S.get hx
  have h2 := S.get (U (sitO a 0 0 ep)).mem
  obtain ⟨hp, g, d, tk, oo⟩ := s
  exact setNext1 h1 h2 hf hs hled (fun j h' sb e _ hj => h j _ hj (S.same (t := tk) (U _) sb e))
theorem endOneS {es : Array (Int × Value)} {ep j : Nat} {tb : SetTable} {it : Addr} {x : Value} {hv : Int} {Q : Option Value → Shared → Prop} (hh : A.handled = none) (S : St B os G L m ((it, sitO a 1 j ep) :: news) s) (hx : (a, (⟨.type "set", none, .set es ep tb, #[]⟩ : Obj)) ∈ news) (hf : tb.fits 1 = true) (hs : es.toList = [(hv, x)]) (hled : tb.led = !w.params.followText "set-order")
    (hj : (∀ p ∈ tb.place.toList, p < j) ∨ w.params.followText "set-order" = true) (h : ∀ s', St B os G L m news s' → Q none s') : wpAny (model prog w) A (pyNext (.ref it)) Q E s := by
  have h1 := S.get (.tail _ hx)
  have h2 := S.get (.head _)
  have z := S.N _ (.head _)
  have nd := S.nd
  rw [List.map_cons, List.nodup_cons] at nd
  obtain ⟨hp, g, d, tk, oo⟩ := s
  refine setEnd1 hh h1 h2 hf hs hled hj (fun h' hx' => h _ ?_)
  refine ⟨⟨S.F.ns.extBut hx' z.2.1.symm, fun b o e => hx' b o (fun q => by rw [q, z.2.2] at e; cases e) (S.F.keep b o e), S.F.above⟩, fun p hp => ?_, nd.2, S.gens, S.bare, S.os⟩
  have y := S.N p (.tail _ hp)
  exact ⟨hx' _ _ (fun q => nd.1 (by show it ∈ _; rw [← q]; exact List.mem_map_of_mem (f := Prod.fst) hp)) y.1, y.2⟩
/-- what a set of one text holds -/
theorem collectOne {Q : List Value → Shared → Prop} (hh : A.handled = none) (S : St B os G L m news s) (ha : (a, o) ∈ news) (ho : One prog w o k t) (h : ∀ s', St B os G L m news s' → Q [.str k t] s') : wpAny (model prog w) A (collect (.ref a)) Q E s := by
  obtain ⟨es, ep, tb, rfl, d1, d2, d3, d4, d5⟩ := ho.ex
  have hsz : es.size = 1 := by rw [← Array.length_toList, d4]; rfl
  unfold collect
  refine wpAny_bind (wpAny_runValue (codeAny_builtin entry_proto_collect' ?_))
  show wpAny _ _ (do again (.builtin "list.__iadd__" ⟨[← newList [], .ref a], []⟩)) _ _ s
  refine wpAny_bind (listS S (fun l s S => wpAny_pure ⟨Code.quiet_builtin _ (by decide +kernel), codeAny_builtin entry_list_iadd' ?_⟩))
  show wpAny _ _ (Builtin.List.listExtendWith (.ref l) (.ref a) (.ref l)) _ _ _
  unfold Builtin.List.listExtendWith
  have hT : s.TypeIs (.ref a) "set" := ⟨_, S.get (.tail _ ha), rfl⟩
  refine wpAny_bind (wpAny_typeOf hT ?_)
  have hla : (l == a) = false := by
    have nd := S.nd
    rw [List.map_cons, List.nodup_cons] at nd
    exact beq_false_of_ne fun e => nd.1 (by show l ∈ _; rw [e]; exact List.mem_map_of_mem (f := Prod.fst) ha)
  refine KFB.if_not (by show ((l == a) || _ || _) = false; rw [hla]; decide) ?_
  have hx := S.get (.tail _ ha)
  obtain ⟨hp, g, d, tk, oo⟩ := s
  refine wpAny_bind (setIter1 hx d3 hsz ?_)
  have S1 := S.push (t := tk) (sitO a 0 0 ep)
  refine wpAny_bind (wpAny_holding (hintSet ⟨_, S1.get (.tail _ (.tail _ ha)), rfl⟩ ?_))
  refine KFB.if_so (by decide +kernel) ?_
  refine wpAny_bind (wpAny_rule ?_)
  unfold Builtin.List.listTouch
  refine wpAny_bind (wpAny_bind (updL S1 (fun n' => Up.tail Up.head) (fun n1 s S => ?_) (by decide) (by decide)))
  refine updL S (fun n' => Up.tail Up.head) (fun n2 s S => ?_) (by decide) (by decide)
  refine wpAny_pure ⟨Code.quiet_builtin _ (by decide +kernel), codeAny_builtin PySem.F.entry_extend_loop ?_⟩
  show wpAny _ _ (pyNext (.ref hp.objs.size) >>= _) _ _ _
  refine wpAny_bind (nextOneS S (.tail _ (.tail _ ha)) (fun o' => Up.head) d3 d4 d5 (fun j s hj S => ?_))
  dsimp only
  refine wpAny_bind (updL S (fun n' => Up.tail Up.head) (fun n3 s S => ?_) (by decide) (by rw [PySem.sizeLine_eq]; simp))
  refine wpAny_pure ⟨Code.quiet_builtin _ (by decide +kernel), codeAny_builtin PySem.F.entry_extend_loop ?_⟩
  show wpAny _ _ (pyNext (.ref hp.objs.size) >>= _) _ _ _
  refine wpAny_bind (endOneS hh S (.tail _ ha) d3 d4 d5 hj (fun s S => ?_))
  refine wpAny_pure ?_
  show wpAny _ _ (load l >>= _) _ _ _
  refine wpAny_bind (wpAny_load (S.get (.head _)) ?_)
  exact wpAny_pure (h _ (S.drop (List.sublist_cons_self _ _)))
end
end Mine
end
section
open PySem PySem.W PySem.Calls PyProof.Rows PySem.Spec
set_option Elab.async false
set_option maxRecDepth 100000
set_option linter.unusedVariables false
namespace Mine
section
variable {prog : Program} {w : World} {A : Around} {E : Value → Shared → Prop} {s s' : Shared} {B : Heap} {os : OsState} {G : Array GenState} {L a c P : Addr} {m : Str → Option Value} {news : List Cell} {o : Obj} {k : Str} {t : Tok}
theorem sortedOne {f : Addr} {Q : Value → Shared → Prop} (hh : A.handled = none) (S : St B os G L m news s) (ha : (a, o) ∈ news) (ho : One prog w o k t)
    (turn : ∀ own s', St B os G L m (own ++ news) s' → wpAny (model prog w) A.in1.in1 (call (.ref f) [.str k t]) (fun _ s₂ => St B os G L m (own ++ news) s₂) (fun _ _ => False) s')
    (h : ∀ l n s', St B os G L m ((l, listOf #[.str k t] n) :: news) s' → Q (.ref l) s') : wpAny (model prog w) A (call (.builtin "sorted") [.ref a] [(Str.ofString "key", .ref f)]) Q E s := by
  refine call_function_entry_kw kind_sorted plain_sorted entry_sorted (ksk_s1 _ _) ?_
  unfold Builtin.«sorted»
  refine wpAny_bind (m := checkCount "sorted" 1 1 _) (wpAny_pure ?_)
  refine wpAny_bind (collectOne hh S ha ho (fun s S => ?_))
  refine wpAny_bind (listS S (fun l s S => ?_))
  refine wpAny_bind (wpAny_holding (wpAny_call_entry_kw slot_list_sort ⟨_, S.get (.head _), rfl⟩ entry_list_sort ?_ (ksk_l1 _ _)))
  show wpAny (model prog w) A.in1.in1 (Builtin.«list.sort» ⟨[.ref l], [(Str.ofString "key", .ref f)]⟩) _ _ _
  rw [ksk_t1]
  unfold ksk_tree
  refine wpAny_bind (listItems_at (S.get (.head _)) rfl ?_)
  refine wpAny_bind (updL S (fun n' => Up.head) (fun n1 s S => ?_) (by rw [PySem.sizeLine_eq]; simp) (by decide))
  refine wpAny_bind (seqEpoch_at (S.get (.head _)) rfl ?_)
  refine wpAny_bind (tupS S (fun tp s S => ?_))
  have S := S.drop (List.sublist_cons_self _ _)
  refine wpAny_bind (listS S (fun ks s S => ?_))
  refine wpAny_holding ?_
  unfold ksk_rest
  refine wpAny_bind (wpAny_rule ?_)
  rw [← Array.forIn_toList]
  refine wpAny_bind ?_
  rw [List.forIn_cons]
  refine wpAny_bind (wpAny_bind (wpAny_attempt (wpAny_mono (turn [(ks, _), (l, _)] _ S) (fun v s S => ?_) fun _ _ hF => hF.elim)))
  dsimp only
  refine wpAny_bind (updL S (fun n' => Up.head) (fun n2 s S => wpAny_pure ?_) (by decide) (by rw [PySem.sizeLine_eq]; simp))
  show wpAny _ _ (forIn [] PUnit.unit _) _ _ _
  rw [List.forIn_nil]
  refine wpAny_pure ?_
  refine wpAny_bind (listItems_at (S.get (.head _)) rfl ?_)
  unfold ksk_end
  refine KFB.if_not rfl ?_
  dsimp only
  rw [if_pos (by show 1 < 2; decide)]
  refine wpAny_bind (wpAny_pure ?_)
  rw [if_pos (by show 1 < 2; decide), if_neg Bool.false_ne_true]
  refine wpAny_bind (wpAny_pure ?_)
  dsimp only
  unfold ksk_tail
  refine wpAny_bind (updL S (fun n' => Up.head) (fun n3 s S => ?_) (by rw [PySem.sizeLine_eq]; simp) (by decide))
  refine wpAny_bind (wpAny_letGo ?_)
  refine wpAny_bind (seqEpoch_at (S.get (.tail _ (.head _))) rfl ?_)
  have ea : (arrOf (SortSt.mk' general' ((#[].push v).zip #[Value.str k t]) #[] 7 none)).map (·.2) = #[Value.str k t] := by first | rfl | kernel_rfl | simp [arrOf, SortSt.mk']
  simp only [Bool.false_eq_true, if_false, ea]
  refine wpAny_bind (updL (f := fun _ => #[Value.str k t]) S (fun n' => Up.tail Up.head) (fun n4 s S => ?_) (by decide) (by rw [PySem.sizeLine_eq]; simp))
  refine KFB.if_not (by simp) ?_
  exact wpAny_pure ⟨_, rfl, wpAny_pure ⟨_, rfl, h l n4 _ (S.drop (List.sublist_cons_self _ _))⟩⟩
end
end Mine
end
section
open PySem PySem.W PySem.Calls PyProof.Rows PySem.Spec PySem.Builtin PySem.Builtin.ObjectAttr
set_option Elab.async false
set_option maxRecDepth 100000
set_option linter.unusedVariables false
namespace Mine
section
variable {prog : Program} {w : World} {A : Around} {E : Value → Shared → Prop} {s s' : Shared} {B : Heap} {os : OsState} {G : Array GenState} {L a c P : Addr} {m : Str → Option Value} {news : List Cell} {o : Obj} {K : Frag}
/-- a def of the class as a value: a method object -/
theorem boundS {x C dx f : Addr} {od : Obj} {sl : Array (Option Value)} {am : Str → Option Value} {name : Str} {expr : Bool} {Q : Value → Shared → Prop} (S : St B os G L m news s) (X : K.In B)
    (hx : (x, (⟨.ref C, some dx, .plain, sl⟩ : Obj)) ∈ news) (hd : (dx, od) ∈ news) (ho : NsO od am) (hg : plainGet K C name = true) (hh : hasDictIn K C = true) (ha : findIn K (.ref C) name = some (some (.ref f))) (hf : isFn K (.ref f) = true)
    (hgf : specialIn K (.ref f) "__get__" = some (some (.builtin "function.__get__"))) (ht : takesIn K (.ref f) = some false) (hc : (copiedNames.contains name) = false) (hv : am name = none)
    (h : ∀ q s', St B os G L m ((q, methodObj (.ref f) (.ref x)) :: news) s' → Q (.ref q) s') : wpAny (model prog w) A (getAttr (.ref x) name expr) Q E s :=
  get_bind (S.X X) (InstAt.of_news S.N hx hd) (plainGet_of hg).1 (findObj_fn hh ha hgf ht hc (by rw [ho.look, hv])) (plainGet_of hg).2
    (wpAny_call (fn_get (s := { s with toks := s.toks + 1 }) (S.X X) (beq_iff_eq.mp hf) (handed_on rfl (h s.heap.objs.size _ (S.push (t := s.toks + 1) (methodObj (.ref f) (.ref x)))))))
end
end Mine
end
section
open PySem PySem.W PySem.Calls PyProof.Rows PySem.Spec
set_option Elab.async false
set_option maxRecDepth 100000
set_option linter.unusedVariables false
namespace Mine
theorem CellsAre.keys {cm : Str → Option Value} {cs : List (Str × Addr)} {cells : List Cell} (h : CellsAre cm cs cells) : cells.map (·.1) = cs.map (·.2) := by
  induction h with
  | nil => rfl
  | cons _ _ ih => simp only [List.map_cons, ih]
section
variable {prog : Program} {w : World} {A : Around} {E : Value → Shared → Prop} {s s' : Shared} {B : Heap} {os : OsState} {G : Array GenState} {L a c P : Addr} {m : Str → Option Value} {news : List Cell} {o : Obj} {K : Frag}
/-- a call of a def with cells -/
theorem call_fnC {R : Result → Shared → Prop} {name qual : Str} {params : Arguments} {body : List Stmt} {scope : Scope} {dV kV doc pm cdv ct oc : Value} {an od : Option Addr} {osl : Array (Option Value)} {f : Addr} {args : Args} {binds : List (Str × Value)}
    (S : St B os G L m news s) (X : K.In B) (hlim : B.NoLimit)
    (ho : K.lookup f = some ⟨oc, od, .func (fnOf name qual params body scope dV kV doc pm an cdv ct), osl⟩) (hcd : codeIn K cdv qual = true) (hroom : A.depth < recursionLimit)
    (hbind : BindsTo s (fnOf name qual params body scope dV kV doc pm an cdv ct) args binds)
    (hkind : ∀ n, ∀ x ∈ binds, scope.names.lookup x.1 = some .local ∨ (scope.names.lookup x.1 = some .cell ∧ ((cellsFrom n scope.names []).lookup x.1).isSome = true))
    (hnd : ((cellsFrom 0 scope.names []).map (·.1)).Nodup) (hnd2 : ∀ n, ((cellsFrom n scope.names []).map (·.2)).Nodup)
    (h : ∀ L' oL cells s', FrC B L oL m → CellsAre (bindC (envOfC qual scope L' f cdv).kindOf binds fun _ => none) (cellsFrom (L' + 1) scope.names []) cells → St B os G L' (bindL (envOfC qual scope L' f cdv).kindOf binds fun _ => none) (cells ++ ((L, oL) :: news)) s' →
      wpAny (model prog w) (A.deeper (envOfC qual scope L' f cdv)) (execs body (envOfC qual scope L' f cdv))
        (fun fl s' => R (.ok (.ret (match fl with | .ret v => v | _ => .none))) s')
        (fun e s' => wpAny (model prog w) (A.deeper (envOfC qual scope L' f cdv)) (leaving (envOfC qual scope L' f cdv) e) (fun _ s'' => R (.error e) s'') (fun e' s'' => R (.error e') s'') s') s')
    (hco : scope.isCoroutine = false := by rfl) (hgen : scope.isGenerator = false := by rfl) (hk : scope.kind = .function := by rfl) : codeAny (model prog w) A (.call (.ref f) args) R s := by
  refine codeAny_call_function hroom (S.X X _ _ ho) rfl hco hgen rfl (codeRec_of (S.X X) hcd) (hbind _ _ _ _ ?_)
  refine wpAny_newFunctionEnv_cells hk (hkind _) fun env' he s' x => ?_
  subst he
  refine ⟨(hlim.keeps S.F.keep).keeps x.toInCall.keep, codeAny_func ?_⟩
  obtain ⟨h₁, tk, rfl, _⟩ := x.done
  have hk₁ := x.toInCall.keep
  obtain ⟨cells, NC, Y⟩ := Cl.news (h₀ := s.heap) (Nat.le_refl _) fun n c hm => ⟨x.cell n c (lookup_of_mem_nodup (cellsFrom_names scope.names 0 (s.heap.objs.size + 1) [] [] rfl ▸ hnd) hm), x.above n c hm⟩
  obtain ⟨oL, fc, S'⟩ := S.enter (t := tk) x.toInCall.ns hk₁
  refine h s.heap.objs.size oL cells _ fc Y ⟨S'.F, fun p hp => ?_, ?_, S'.gens, S'.bare, S'.os⟩
  · rcases List.mem_append.mp hp with hp | hp
    · refine ⟨(NC p hp).1, (NC p hp).2.1, ?_⟩
      cases q : B.get? p.1 with
      | none => rfl
      | some o => have := S.F.keep _ _ q; rw [(NC p hp).2.2] at this; cases this
    · exact S'.N p hp
  · rw [List.map_append, List.nodup_append]
    refine ⟨by rw [CellsAre.keys Y]; exact hnd2 _, S'.nd, fun b hb d hd e => ?_⟩
    subst e
    obtain ⟨p, hp, rfl⟩ := List.mem_map.mp hb
    have h0 := (NC p hp).2.2
    rcases List.mem_cons.mp hd with e | hd
    · obtain ⟨oL', e', _⟩ := ns_nsO S.F.ns
      rw [e, e'] at h0; cases h0
    · obtain ⟨q, hq, e⟩ := List.mem_map.mp hd
      rw [← e, (S.N q hq).1] at h0; cases h0
end
end Mine
end
section
open PySem PySem.W PySem.Calls PyProof.Rows PySem.Spec
set_option Elab.async false
set_option maxRecDepth 100000
set_option linter.unusedVariables false
namespace Mine
section
variable {prog : Program} {w : World} {A : Around} {E : Value → Shared → Prop} {s s' : Shared} {B : Heap} {os : OsState} {G : Array GenState} {L a c P : Addr} {m : Str → Option Value} {news news' : List Cell} {o : Obj} {K : Frag}
  {cn : Str} {cs : Scope} {ccd : Value} {cl : List (Str × Addr)} {x : Str} {pos : Pos} {v : Value}
theorem ldX {M : Model} {Q : Value → Shared → Prop} (S : St B os G L m news s) (hv : m x = some v) (h : Q v s)
    (hk : cs.kind = .function := by rfl) (hx : (envX cn cs L a ccd cl).kindOf x = some .local := by rfl) (hd : (x == ("__debug__" : Str)) = false := by decide) : wpAny M A (eval (.Name x pos) (envX cn cs L a ccd cl)) Q E s := nameX_L S.F hv h hk hx hd
theorem ldCell {M : Model} {Q : Value → Shared → Prop} (S : St B os G L m news s) (hc : cl.lookup x = some c) (hm : (c, o) ∈ news) (hdt : o.data = .cell (some v)) (h : Q v s)
    (hk : cs.kind = .function := by rfl) (hx : (envX cn cs L a ccd cl).kindOf x = some .cell := by rfl) (hb : (x == ("__debug__" : Str)) = false := by decide) : wpAny M A (eval (.Name x pos) (envX cn cs L a ccd cl)) Q E s := nameX_C S.N hc hm hdt h hk hx hb
theorem globX {M : Model} {Q : Value → Shared → Prop} (C : Cx K B) (S : St B os G L m news s) (e : nsIn K mainGlobals x = some (some v)) (h : Q v s)
    (hk : cs.kind = .function := by rfl) (hx : (envX cn cs L a ccd cl).kindOf x = some .globalImplicit := by rfl) (hd : (x == ("__debug__" : Str)) = false := by decide) : wpAny M A (eval (.Name x pos) (envX cn cs L a ccd cl)) Q E s :=
  let ⟨_, _, _, _, T⟩ := C.top; nameX_K S.F C.X T e h hk hx hd
theorem bltX {M : Model} {Q : Value → Shared → Prop} (C : Cx K B) (S : St B os G L m news s) (e : nsIn K mainGlobals x = some none) (hv : bootBuiltins x = some v) (hn : x ≠ "__name__") (h : Q v s)
    (hk : cs.kind = .function := by rfl) (hx : (envX cn cs L a ccd cl).kindOf x = some .globalImplicit := by rfl) (hd : (x == ("__debug__" : Str)) = false := by decide) : wpAny M A (eval (.Name x pos) (envX cn cs L a ccd cl)) Q E s :=
  let ⟨_, _, _, _, T⟩ := C.top; nameX_B S.F C.X T e hv hn h hk hx hd
theorem stX {M : Model} {Q : Unit → Shared → Prop} (S : St B os G L m news s) (h : ∀ s', St B os G L (fun y => if y = x then some v else m y) news s' → Q () s')
    (hk : cs.kind = .function := by rfl) (hx : (envX cn cs L a ccd cl).kindOf x = some .local := by rfl) : wpAny M A (storeName (envX cn cs L a ccd cl) x v) Q E s :=
  storeX_L S.F S.N (fun h' F' N' => h _ (S.to (s' := { s with heap := h', toks := s.toks + 1 }) F' N' rfl)) hk hx
theorem stCell {M : Model} {news' : Obj → List Cell} {v₀ : Option Value} {Q : Unit → Shared → Prop} (S : St B os G L m news s) (hc : cl.lookup x = some c) (U : ∀ o', Up c o o' news (news' o')) (hd : o.data = .cell v₀)
    (h : ∀ o' s', o'.data = .cell (some v) → St B os G L m (news' o') s' → Q () s')
    (hk : cs.kind = .function := by rfl) (hx : (envX cn cs L a ccd cl).kindOf x = some .cell := by rfl) : wpAny M A (storeName (envX cn cs L a ccd cl) x v) Q E s :=
  storeX_C S.F S.N hc (upF U S.nd) hd (fun h' o' F' N' hd' => h o' _ hd' (S.to (s' := { s with heap := h' }) F' N' (U o').keys)) hk hx
end
end Mine
end
section
open PySem PySem.W PySem.Calls PyProof.Rows PySem.Spec
set_option Elab.async false
set_option maxRecDepth 100000
set_option linter.unusedVariables false
namespace Mine
/-- an object that walks the list l and stands at i -/
def LI (o : Obj) (l : Addr) (i : Nat) : Prop := o.cls = .type "list_iterator" ∧ o.data = .fields #[.ref l, .int i 0]
section
variable {prog : Program} {w : World} {A : Around} {E : Value → Shared → Prop} {s s' : Shared} {B : Heap} {os : OsState} {G : Array GenState} {L a c P : Addr} {m : Str → Option Value} {news news' : List Cell} {o : Obj} {K : Frag}
theorem iterL {l : Addr} {its : Array Value} {n : Nat} {Q : Value → Shared → Prop} (S : St B os G L m news s) (hl : (l, listOf its n) ∈ news) (h : ∀ it oit s', LI oit l 0 → St B os G L m ((it, oit) :: news) s' → Q (.ref it) s') : wpAny (model prog w) A (pyIter (.ref l)) Q E s :=
  wpAny_pyIter_list (listOf_isList (S.get hl)) (h _ _ _ ⟨rfl, rfl⟩ (S.push (t := s.toks) _))
theorem nextL {l it : Addr} {its : Array Value} {n i : Nat} {x : Value} {oit : Obj} {news' : Obj → List Cell} {Q : Option Value → Shared → Prop} (S : St B os G L m news s) (hl : (l, listOf its n) ∈ news) (U : ∀ o', Up it oit o' news (news' o')) (hi : LI oit l i) (hx : its[i]? = some x)
    (h : ∀ o' s', LI o' l (i + 1) → St B os G L m (news' o') s' → Q (some x) s') : wpAny (model prog w) A (pyNext (.ref it)) Q E s := by
  refine wpAny_pyNext_list_item ⟨oit, S.get (U oit).mem, hi.1, hi.2⟩ (listOf_isList (S.get hl)) hx (fun h' hit hs => ?_)
  obtain ⟨o', e, h1, h2⟩ := hit
  exact h o' _ ⟨h1, h2⟩ (S.same (t := s.toks) (U o') hs e)
theorem endL {l it : Addr} {its : Array Value} {n i : Nat} {oit : Obj} {Q : Option Value → Shared → Prop} (hh : A.handled = none) (S : St B os G L m ((it, oit) :: news) s) (hl : (l, listOf its n) ∈ news) (hi : LI oit l i) (hx : its[i]? = none)
    (h : ∀ s', St B os G L m news s' → Q none s') : wpAny (model prog w) A (pyNext (.ref it)) Q E s := by
  have z := S.N _ (.head _)
  have nd := S.nd
  rw [List.map_cons, List.nodup_cons] at nd
  refine wpAny_pyNext_list_end hh ⟨oit, S.get (.head _), hi.1, hi.2⟩ (listOf_isList (S.get (.tail _ hl))) hx (fun h' hx' => h _ ?_)
  refine ⟨⟨S.F.ns.extBut hx' z.2.1.symm, fun b o e => hx' b o (fun q => by rw [q, z.2.2] at e; cases e) (S.F.keep b o e), S.F.above⟩, fun p hp => ?_, nd.2, S.gens, S.bare, S.os⟩
  have y := S.N p (.tail _ hp)
  exact ⟨hx' _ _ (fun q => nd.1 (by show it ∈ _; rw [← q]; exact List.mem_map_of_mem (f := Prod.fst) hp)) y.1, y.2⟩
theorem dictSetS {D : Addr} {od : Obj} {kvs : List (Str × Value)} {k : Str} {t : Tok} {v : Value} {news' : Obj → List Cell} {Q : Unit → Shared → Prop} (S : St B os G L m news s) (U : ∀ o', Up D od o' news (news' o')) (hd : od.IsDictOf (strKind prog w) kvs) (hz : kvs.length < 1000)
    (h : ∀ o' s', o'.IsDictOf (strKind prog w) (stored kvs k v) → St B os G L m (news' o') s' → Q () s') : wpAny (model prog w) A (dictSet D (.str k t) v) Q E s := by
  refine wpAny_dictSet_pairs (isStrOf_str k t prog w) (Heap.dictOf_iff.mpr ⟨od, S.get (U od).mem, hd⟩) (fun h' hd' hs => ?_) ?_
  · obtain ⟨o', e, hd''⟩ := Heap.dictOf_iff.mp hd'
    exact h o' _ hd'' (S.same (U o') hs e)
  · rw [PySem.sizeLine_eq]; omega
end
end Mine
end
section
open PySem PySem.W PySem.Calls PyProof.Rows PySem.Spec
set_option Elab.async false
set_option maxRecDepth 100000
set_option linter.unusedVariables false
namespace Mine
section
variable {prog : Program} {w : World} {A : Around} {E : Value → Shared → Prop} {s s' : Shared} {B : Heap} {os : OsState} {G : Array GenState} {L C a c P : Addr} {m mC : Str → Option Value} {news news' : List Cell} {o oL : Obj} {K : Frag} {env : Env}
theorem St.loseNs {oC : Obj} (S : St B os G L m ((C, oC) :: news) s) {h' : Heap} (hs : Heap.SameBut C s.heap h') : St B os G L m news { s with heap := h' } := by
  have z := S.N _ (.head _)
  have nd := S.nd
  rw [List.map_cons, List.nodup_cons] at nd
  refine ⟨S.F.change hs z.2.1 z.2.2, fun p hp => ⟨(hs.2 p.1 fun e => nd.1 ?_).trans (S.N p (.tail _ hp)).1, (S.N p (.tail _ hp)).2⟩, nd.2, S.gens, S.bare, S.os⟩
  show C ∈ _
  rw [← e]; exact List.mem_map_of_mem (f := Prod.fst) hp
/-- the frame at hand and the one below change places -/
theorem St.turn (S : St B os G C mC ((L, oL) :: news) s) (f : FrC B L oL m) : ∃ oC, NsO oC mC ∧ St B os G L m ((C, oC) :: news) s := by
  obtain ⟨oC, e, hC⟩ := ns_nsO S.F.ns
  have nd := S.nd
  rw [List.map_cons, List.nodup_cons] at nd
  have z := S.N _ (.head _)
  refine ⟨oC, hC, ⟨f.ns.ns z.1, S.F.keep, f.above⟩, fun p hp => ?_, ?_, S.gens, S.bare, S.os⟩
  · rcases List.mem_cons.mp hp with rfl | hp
    · exact ⟨e, fun q => z.2.1 q.symm, base_none S.F.above⟩
    · have y := S.N p (.tail _ hp)
      refine ⟨y.1, fun q => nd.1 ?_, y.2.2⟩
      show L ∈ _
      rw [← q]; exact List.mem_map_of_mem (f := Prod.fst) hp
  · rw [List.map_cons, List.nodup_cons]
    refine ⟨fun hm => ?_, nd.2⟩
    obtain ⟨p, hp, q⟩ := List.mem_map.mp hm
    exact (S.N p (.tail _ hp)).2.1 q
theorem comp_enter {e : PySem.Expr} {it acc : Value} {scope : Scope} {cl : List (Str × Addr)} {R : Addr → Result → Shared → Prop} (S : St B os G L m news s) (hcell : ∀ y ∈ scope.names, y.2 ≠ .cell) (hkind : scope.kind = .function)
    (h : ∀ C oL s', FrC B L oL m → St B os G C (fun _ => none) ((L, oL) :: news) s' → codeAny (model prog w) A (.compStart e 0 it acc (compEnvC scope cl C env)) (R C) s') :
    wpAny (model prog w) A (newFunctionEnv scope env.globals cl [] env.qual none .none (some env)) (fun cenv s₄ => codeAny (model prog w) A (.compStart e 0 it acc { cenv with scope := relabel scope env }) (R cenv.locals) s₄) E s := by
  refine wpAny_newFunctionEnv hcell (by intro y hy; simp at hy) (fun h₁ hns hsb => ?_) hkind
  have hk₁ : ∀ b o, s.heap.get? b = some o → h₁.get? b = some o := fun b o e => (hsb.2 b (Nat.ne_of_lt (Heap.lt_size e))).trans (Heap.get?_push_of_some _ e)
  obtain ⟨oL, fc, S'⟩ := S.enter (t := s.toks + 0) hns hk₁
  exact h _ oL _ fc S'
theorem comp_none {acc : Value} {fl : Flow} {Q : Value → Shared → Prop} (S : St B os G C mC ((L, oL) :: news) s) (f : FrC B L oL m) (h : ∀ s', St B os G L m news s' → Q acc s') : compPost (model prog w) A E none Q acc C (.ok fl) s := by
  obtain ⟨oC, hC, S'⟩ := S.turn f
  exact ⟨mC, S.F.ns, fun h' hs => h _ (S'.loseNs hs)⟩
theorem comp_some {acc : Value} {fl : Flow} {u : Value → Sem Unit} {Q : Value → Shared → Prop} {m' : Str → Option Value} (S : St B os G C mC ((L, oL) :: news) s) (f : FrC B L oL m)
    (hu : ∀ oC s', St B os G L m ((C, oC) :: news) s' → wpAny (model prog w) A (u acc) (fun _ s'' => St B os G L m' ((C, oC) :: news) s'') E s') (h : ∀ s', St B os G L m' news s' → Q .none s') : compPost (model prog w) A E (some u) Q acc C (.ok fl) s := by
  obtain ⟨oC, hC, S'⟩ := S.turn f
  refine wpAny_mono (hu oC _ S') (fun _ s'' S'' => ?_) fun _ _ z => z
  exact ⟨mC, hC.ns (S''.get (.head _)), fun h' hs => h _ (S''.loseNs hs)⟩
theorem selfL {l it : Addr} {i : Nat} {oit : Obj} {Q : Value → Shared → Prop} (S : St B os G L m news s) (hm : (it, oit) ∈ news) (hi : LI oit l i) (h : Q (.ref it) s) : wpAny (model prog w) A (pyIter (.ref it)) Q E s :=
  wpAny_pyIter_listiter ⟨oit, S.get hm, hi.1, hi.2⟩ h
/-- a dict comprehension over a list of one, stored to a name -/
theorem dictCompS {kx vx iter : PySem.Expr} {x y : Str} {px py pos spos : Pos} {scope cs : Scope} {cl cl0 : List (Str × Addr)} {cn : Str} {ccd : Value} {Q : Flow → Shared → Prop} (hh : A.handled = none)
    (hsw : swapsWith (.DictComp kx vx [⟨.Name x px, iter, [], 0⟩] scope pos) (some (.Name y py)) spos.line (envX cn cs L a ccd cl0) = pure true)
    (hclos : closureFor scope (envX cn cs L a ccd cl0) = pure cl) (hcell : ∀ z ∈ scope.names, z.2 ≠ .cell) (hkind : scope.kind = .function)
    (hnames : ∀ z ∈ scope.names, z.2 = .local → scope.names.lookup z.1 = some .local) (hx : scope.names.lookup x = some .local) (hy : (envX cn cs L a ccd cl0).kindOf y = some .local) (hck : cs.kind = .function)
    (hs : ∀ x, foldedSetIterable iter (envX cn cs L a ccd cl0) x = pure x)
    (h : wpAny (model prog w) A (eval iter (envX cn cs L a ccd cl0)) (fun v s₁ => ∃ (l : Addr) (v1 : Value) (n : Nat) (G₁ : Array GenState) (news₁ : List Cell), v = .ref l ∧ St B os G₁ L m ((l, listOf #[v1] n) :: news₁) s₁ ∧
      ∀ C D oL it oit s₂ E', FrC B L oL m → LI oit l 1 → St B os G₁ C (fun y => if y = x then some v1 else none) ((D, dictO #[] 0) :: (L, oL) :: (it, oit) :: (l, listOf #[v1] n) :: news₁) s₂ →
      wpAny (model prog w) A (eval kx (compEnvC scope cl C (envX cn cs L a ccd cl0))) (fun kv s₃ => wpAny (model prog w) A (eval vx (compEnvC scope cl C (envX cn cs L a ccd cl0))) (fun vv s₄ => ∃ k t G₂ news₂, kv = .str k t ∧
        St B os G₂ C (fun y => if y = x then some v1 else none) ((D, dictO #[] 0) :: (L, oL) :: (it, oit) :: (l, listOf #[v1] n) :: news₂) s₄ ∧
        ∀ oD' s₅, oD'.IsDictOf (strKind prog w) [(k, vv)] → St B os G₂ L (fun z => if z = y then some (.ref D) else m z) ((D, oD') :: news₂) s₅ → Q .next s₅) E' s₃) E' s₂) E s) :
    wpAny (model prog w) A (exec (.Assign [.Name y py] (.DictComp kx vx [⟨.Name x px, iter, [], 0⟩] scope pos) spos) (envX cn cs L a ccd cl0)) Q E s := by
  rw [exec_Assign_Name_used _ _ _ _ hsw]
  refine wpAny_bind (wpAny_standAt (wpAny_bind ?_))
  show wpAny _ A (do let _ ← comprehension (.DictComp kx vx [⟨.Name x px, iter, [], 0⟩] scope pos) scope _ _ newDict false (eval iter _) (some (assign (.Name y py) _))) _ _ s
  refine wpAny_bind (wpAny_mono (wpAny_comprehension_free (use := some (assign (.Name y py) _)) (Q := fun _ s' => Q .next s') rfl hs hclos hkind hnames
    (wpAny_mono h (fun xv s₁ h₁ => ?_) fun _ _ e => e)) (fun _ s' hq => wpAny_pure (wpAny_pure hq)) fun _ _ e => e)
  obtain ⟨l, v1, n, G₁, news₁, rfl, S, h⟩ := h₁
  refine iterL S (.head _) (fun it oit s hit S => ?_)
  refine wpAny_newObj_type ?_
  have S := S.push (t := s.toks) (dictO #[] 0)
  generalize s.heap.objs.size = D at *
  refine comp_enter (R := fun C => compPost (model prog w) A E (some (assign (.Name y py) _)) (fun _ s' => Q .next s') _ C) S hcell hkind (fun C oL s f S => ?_)
  have loop : ∀ {s}, St B os G₁ C (fun _ => none) ((L, oL) :: (D, dictO #[] 0) :: (it, oit) :: (l, listOf #[v1] n) :: news₁) s → codeAny (model prog w) A (.compLoop (.DictComp kx vx [⟨.Name x px, iter, [], 0⟩] scope pos) 0 (.ref it) (.ref D) (compEnvC scope cl C (envX cn cs L a ccd cl0))) (compPost (model prog w) A E (some (assign (.Name y py) (envX cn cs L a ccd cl0))) (fun _ s' => Q .next s') (.ref D) C) s := by
    intro s S
    refine codeAny_compLoop_testsD (fun k s => (k = 1 ∧ St B os G₁ C (fun _ => none) ((L, oL) :: (D, dictO #[] 0) :: (it, oit) :: (l, listOf #[v1] n) :: news₁) s) ∨ (k = 0 ∧ ∃ kk vv G₂ oD' oit' news₂, LI oit' l 1 ∧ oD'.IsDictOf (strKind prog w) [(kk, vv)] ∧ St B os G₂ C (fun y => if y = x then some v1 else none) ((D, oD') :: (L, oL) :: (it, oit') :: (l, listOf #[v1] n) :: news₂) s ∧ ∀ oD' s₅, oD'.IsDictOf (strKind prog w) [(kk, vv)] → St B os G₂ L (fun z => if z = y then some (.ref D) else m z) ((D, oD') :: news₂) s₅ → Q .next s₅)) ?_ 1 (.inl ⟨rfl, S⟩)
    rintro k s (⟨rfl, S⟩ | ⟨rfl, kk, vv, G₂, oD', oit', news₂, hit', hD', S, hk⟩)
    · refine nextL S (.tail _ (.tail _ (.tail _ (.head _)))) (fun o' => .tail (.tail .head)) hit (i := 0) rfl (fun oit' s hit' S => ?_)
      refine wpAny_assign_Name (wpAny_storeName_local (lookup_relabel_local hx) S.F.ns (fun h' hn hs => ?_) (by simp [compEnvC, relabel, hkind]))
      have S' : St B os G₁ C (fun y => if y = x then some v1 else none) ((L, oL) :: (D, dictO #[] 0) :: (it, oit') :: (l, listOf #[v1] n) :: news₁) { s with heap := h', toks := s.toks + 1 } := by
        refine ⟨⟨hn, fun b o e => (hs.2 b fun q => ?_).trans (S.F.keep b o e), S.F.above⟩, fun p hp => ⟨(hs.2 p.1 (S.N p hp).2.1).trans (S.N p hp).1, (S.N p hp).2⟩, S.nd, S.gens, S.bare, S.os⟩
        have := base_none S.F.above
        rw [q] at e
        exact absurd (e.symm.trans this) (by simp)
      refine wpAny_pure ?_
      rw [if_pos rfl]
      refine wpAny_mono (h C D oL it oit' _ _ f hit' (S'.perm (.swap ..))) (fun kv s₃ h₃ => wpAny_mono h₃ (fun vv s₄ h₄ => ?_) fun _ _ z => z) fun _ _ z => z
      obtain ⟨kk, t, G₂, news₂, rfl, S, hk⟩ := h₄
      refine dictSetS (kvs := []) S (fun o' => .head) ⟨#[], 0, ⟨rfl, rfl, rfl⟩, rfl, (fun e he => by simp at he), .nil, List.nodup_nil⟩ (by decide) (fun o' s hd S => ?_)
      exact ⟨0, by decide, .inr ⟨rfl, kk, vv, G₂, o', oit', news₂, hit', hd, S, hk⟩⟩
    · have S1 : St B os G₂ C (fun y => if y = x then some v1 else none) ((it, oit') :: (L, oL) :: (D, oD') :: (l, listOf #[v1] n) :: news₂) s := by
        refine S.perm ?_
        refine (List.Perm.swap _ _ _).trans ((List.Perm.cons _ (.swap _ _ _)).trans (.swap _ _ _))
      refine endL hh S1 (.tail _ (.tail _ (.head _))) hit' rfl (fun s S => ?_)
      refine comp_some S f (u := assign (.Name y py) (envX cn cs L a ccd cl0)) (m' := fun z => if z = y then some (.ref D) else m z) (fun oC s S => ?_) (fun s S => ?_)
      · exact wpAny_assign_Name (stX S (fun s S => S) hck hy)
      · exact hk oD' s hD' (S.drop (.cons_cons _ (.cons _ (.refl _))))
  exact codeAny_compStart_dict (loop S) (selfL S (.tail _ (.tail _ (.head _))) hit (loop S))
end
end Mine
end
section
open PySem PySem.W PySem.Calls PyProof.Rows PySem.Spec
set_option Elab.async false
set_option maxRecDepth 100000
set_option linter.unusedVariables false
namespace Mine
theorem dictO_is {prog : Program} {w : World} {ep : Nat} : (dictO #[] ep).IsDictOf (strKind prog w) [] := ⟨#[], ep, ⟨rfl, rfl, rfl⟩, rfl, (fun e he => by simp at he), .nil, List.nodup_nil⟩
section
variable {prog : Program} {w : World} {A : Around} {E : Value → Shared → Prop} {s s' : Shared} {B : Heap} {os : OsState} {G : Array GenState} {L C a c P D : Addr} {m mC : Str → Option Value} {news news' : List Cell} {o oL : Obj} {K : Frag} {env : Env}
theorem dict0S {pos : Pos} {Q : Value → Shared → Prop} (S : St B os G L m news s) (hlim : B.NoLimit) (h : ∀ a s', (a == sysModules) = false → St B os G L m ((a, dictO #[] 0) :: news) s' → Q (.ref a) s') : wpAny (model prog w) A (eval (.Dict [] [] pos) env) Q E s :=
  wpAny_Dict_empty (h _ _ (S.F.notModules (modules_low hlim)) (S.push (t := s.toks) (dictO #[] 0)))
theorem truthy_dict0S {ep : Nat} {Q : Bool → Shared → Prop} (S : St B os G L m news s) (hD : (D, dictO #[] ep) ∈ news) (hm : (D == sysModules) = false) (h : ∀ s', St B os G L m news s' → Q false s') : wpAny (model prog w) A (truthy (.ref D)) Q E s :=
  wpAny_truthy_dict (knd := strKind prog w) hm (kda_dict S.N hD dictO_is) (by decide) (h _ S.tk)
theorem dictGetM {kvs : List (Str × Value)} {pl : Sem Bool} {Q : Value × List Value → Shared → Prop} (S : St B os G L m news s) (hD : (D, o) ∈ news) (hd : o.IsDictOf (strKind prog w) kvs) (h : Q (.builtin "dict.get", [.ref D]) s) : wpAny (model prog w) A (getMethod (.ref D) "get" pl) Q E s :=
  kdg_method S.N hD hd h
theorem dictGet {kvs : List (Str × Value)} {k : Str} {t : Tok} {Q : Value → Shared → Prop} (S : St B os G L m news s) (hD : (D, o) ∈ news) (hd : o.IsDictOf (strKind prog w) kvs) (hm : (D == sysModules) = false) (h : ∀ s', St B os G L m news s' → Q ((valueAt kvs k).getD .none) s') : wpAny (model prog w) A (call (.builtin "dict.get") [.ref D, .str k t]) Q E s :=
  kdg_get1 S.N hD hd hm (isStrOf_str k t prog w) _ rfl (h _ S.tk)
theorem dictItem {kvs : List (Str × Value)} {k : Str} {t : Tok} {v : Value} {value slice : PySem.Expr} {Q : Value → Shared → Prop} (S : St B os G L m news s) (hD : (D, o) ∈ news) (hd : o.IsDictOf (strKind prog w) kvs) (hv : valueAt kvs k = some v) (h : ∀ s', St B os G L m news s' → Q v s')
    (hs : subscripted slice false (.ref D) (.str k t) = operate [.ref D, .str k t] (getItem (.ref D) (.str k t)) := by with_unfolding_all rfl) (hg : ∀ r, letTemporaryGo value (.ref D) r = pure () := by intro _; with_unfolding_all rfl) :
    wpAny (model prog w) A (subscriptTail value slice (.ref D) (.str k t)) Q E s :=
  kda_item S.N hD hd (isStrOf_str k t prog w) hv (h _ S.tk) hs hg
theorem split2S {x y : Str} {k : Int} {t u v : Tok} {Q : Value → Shared → Prop} (S : St B os G L m news s) (hy : (y.length == 0) = false) (hk : (decide (k < -(2 ^ 63 : Int)) || decide (k ≥ 2 ^ 63)) = false) (hx : x.length ≤ 1000)
    (h : ∀ l a s', l.map (·.1) = Txt.splitMax x y k → St B os G L m ((a, listOf (strValues l).toArray 0) :: news) s' → Q (.ref a) s') : wpAny (model prog w) A (call (.builtin "str.split") [.str x t, .str y u, .int k v]) Q E s :=
  splitN2A S.F S.N hy hk (fun l h' tk e _ _ _ F N => h l _ _ e (S.cons (s' := { s with heap := h', toks := tk }) F N fun _ hp => S.lt hp)) (by rw [PySem.sizeLine_eq]; omega)
end
end Mine
namespace Mine
section
variable {M : Model} {prog : Program} {w : World} {A : Around} {E : Value → Shared → Prop} {s s' : Shared} {B : Heap} {os : OsState} {G : Array GenState} {L C a c P D : Addr} {m mC : Str → Option Value} {news news' : List Cell} {o oL : Obj} {K : Frag} {env : Env} {scope : Scope} {cl : List (Str × Addr)} {x : Str} {v : Value} {pos : Pos} {Q : Value → Shared → Prop}
theorem ldComp (S : St B os G C m news s) (hv : m x = some v) (h : Q v s) (hk : scope.kind = .function := by rfl) (hl : scope.names.lookup x = some .local := by rfl) (hd : (x == ("__debug__" : Str)) = false := by decide) : wpAny M A (eval (.Name x pos) (compEnvC scope cl C env)) Q E s :=
  wpAny_Name (wpAny_loadName_local (by simp [compEnvC, relabel, hk]) (lookup_relabel_local hl) S.F.ns hv h) hd
theorem ldCompCell (S : St B os G C m news s) (hc : cl.lookup x = some c) (hm : (c, o) ∈ news) (hdt : o.data = .cell (some v)) (h : Q v s) (hl : (compEnvC scope cl C env).kindOf x = some .cell) (hk : scope.kind = .function := by rfl) (hd : (x == ("__debug__" : Str)) = false := by decide) : wpAny M A (eval (.Name x pos) (compEnvC scope cl C env)) Q E s :=
  wpAny_Name (wpAny_loadName_cell (by simp [compEnvC, relabel, hk]) hl hc ⟨o, S.get hm, hdt⟩ h) hd
end
end Mine
end
section
open PySem PySem.W PySem.Calls PyProof.Rows PySem.Spec
set_option Elab.async false
set_option maxRecDepth 100000
set_option linter.unusedVariables false
namespace Mine
theorem bt_ns {K : Frag} {s : Shared} {M : Model} {A : Around} {E : Value → Shared → Prop} {Q : List (Str × Value) → Shared → Prop} (X : K.In s.heap) {m : Sem (List (Str × Value))} {d : Addr} {name : Str} {v : Value} {k : Option Value → Sem (List (Str × Value))} (h₁ : m = nsGet d name >>= k) (e : nsIn K d name = some (some v))
    (h : wpAny M A (k (some v)) Q E s) : wpAny M A m Q E s := by
  rw [h₁]
  exact wpAny_bind ((looks_nsIn X e).here h)
section
variable {prog : Program} {w : World} {A : Around} {E : Value → Shared → Prop} {s s' : Shared} {B : Heap} {os : OsState} {G : Array GenState} {L C a c P D : Addr} {m mC : Str → Option Value} {news news' : List Cell} {o oL : Obj} {K : Frag} {env : Env}
/-- list(view of a dict's items) -/
theorem listItems {r d : Addr} {kvs : List (Str × Value)} {ep : Nat} {Q : Value → Shared → Prop} (hh : A.handled = none) (S : St B os G L m news s) (hv : s.heap.IsItemsView r d) (hm : s.heap.DictAt (strKind prog w) d kvs ep) (hn : kvs.length ≤ 1000)
    (h : ∀ D its c s', its.size = kvs.length → St B os G L m ((D, listOf its c) :: news) s' → Q (.ref D) s') : wpAny (model prog w) A (call (.type "list") [.ref r]) Q E s := by
  refine kdx_call hh hv hm (by rw [PySem.sizeLine_eq]; omega) (fun h' tk acc c as hk hS hl hG hacc => ?_)
  refine h _ acc c _ ?_ ((S.ext (t := tk) hk).cons (s' := { s with heap := h', toks := tk }) (S.ext (t := tk) hk).F (fun p hp => ?_) fun _ hp => S.lt hp)
  · rw [← Array.length_toList, hacc, List.length_map, hl]
  · rcases List.mem_cons.mp hp with rfl | hp
    · exact ⟨hS, Nat.ne_of_gt S.F.ns.lt, base_none (Nat.le_trans S.F.above (Nat.le_of_lt S.F.ns.lt))⟩
    · exact ⟨hk _ _ (S.N p hp).1, (S.N p hp).2⟩
set_option maxHeartbeats 3200000 in
/-- set(a list of one text) -/
theorem setOfOne {l : Addr} {k : Str} {t : Tok} {n : Nat} {Q : Value → Shared → Prop} (hh : A.handled = none) (S : St B os G L m news s) (hl : (l, listOf #[.str k t] n) ∈ news)
    (h : ∀ sa o s', SetO prog w o (fun k' => decide (k' = k)) 1 → St B os G L m ((sa, o) :: news) s' → Q (.ref sa) s') : wpAny (model prog w) A (call (.type "set") [.ref l]) Q E s := by
  obtain ⟨c, tl, hmro⟩ := F.called_set.mro
  have hmade := F.called_set.made
  have hsub := F.called_set.sub
  refine wpAny_call (codeAny_of_tree ?_)
  show wpAny _ _ (callAny (.type "set") _) _ _ _
  refine wpAny_pure ⟨Code.quiet_builtin _ (by decide +kernel), codeAny_builtin F.entry_type_call ?_⟩
  rw [Around.under_plain (weight_type_call_type "set" [.ref l] []) rfl]
  have h1 := F.called_set.notType
  have h2 := F.called_set.canCreate
  have hct := F.typeCall_set_1 (.ref l)
  repeat (any_goals (first | assumption | wp_step))
  refine codeAny_mono (code_set_new_1 (.ref l) (E := E) (Q₁ := fun obj s₁ => ∃ led : Bool, obj = .ref s.heap.objs.size ∧ s₁ = { s with heap := s.heap.push (set0 led) }) fun led => ⟨led, rfl, rfl⟩) fun r s₁ hr => ?_
  cases r with
  | error e => exact hr
  | ok fl =>
    cases fl with
    | ret obj =>
      obtain ⟨led, rfl, rfl⟩ := hr
      have S := S.push (t := s.toks) (set0 led)
      have hS := S.get (.head _)
      have hol := S.get (.tail _ hl)
      have hT : Shared.TypeIs { s with heap := s.heap.push (set0 led) } (.ref s.heap.objs.size) "set" := ⟨_, hS, rfl⟩
      have hli := F.called_set.init.lookup
      have hbi := F.called_set.init.bind (.ref s.heap.objs.size)
      repeat (any_goals (first | assumption | wp_step))
      refine codeAny_mono (codeAny_call_builtin (R := wants (fun r s₂ => r = .none ∧ ∃ o, SetO prog w o (fun k' => decide (k' = k)) 1 ∧ St B os G L m ((s.heap.objs.size, o) :: news) s₂) E) F.called_set.init.plain F.entry_set_init (check_set_init_1 hT ?_)) fun r₂ s₂ hr₂ => ?_
      · have hsls := F.sub_list_set
        have hslf := F.sub_list_frozenset
        have hne : (Value.type "list" == Value.type "dict") = false := by decide
        unfold Builtin.«set.__init__» noKeywords Builtin.Frozenset.updateFrom
        generalize hPI : pyIter = PI
        wp_walk
        subst hPI
        refine iterL S (.tail _ hl) (fun it oit s hit S => ?_)
        refine wpAny_bind (wpAny_runValue ?_)
        refine codeAny_builtin PyProof.Rows.F.entry_set_update_loop ?_
        rw [Around.under_plainId PyProof.Rows.F.plain_set_update_loop _]
        refine wpAny_bind (nextL S (.tail _ (.tail _ hl)) (fun o' => .head) hit (i := 0) rfl (fun oit' s hit' S => ?_))
        have h0 : SetO prog w (set0 led) (fun _ => false) 0 := ⟨#[], 0, _, ⟨rfl, rfl, rfl⟩, rfl, (fun e he => by simp at he), (fun k => by simp), (by decide), rfl, rfl⟩
        refine wpAny_bind (wpAny_holding (setAddS S (fun o' => .tail .head) h0 (by decide) (fun o1 s ho1 S => ?_)))
        refine wpAny_pure ⟨Code.quiet_builtin _ (by decide +kernel), codeAny_builtin PyProof.Rows.F.entry_set_update_loop ?_⟩
        rw [Around.under_plainId PyProof.Rows.F.plain_set_update_loop _]
        refine wpAny_bind (endL (A := A.in1.in1.in1) (by simpa using hh) S (.tail _ hl) hit' rfl (fun s S => ?_))
        refine wpAny_pure ?_
        show wpAny _ _ _ _ _ _
        refine wpAny_pure (wpAny_pure ⟨rfl, o1, ?_, S⟩)
        simpa using ho1
      · cases r₂ with
        | error e => exact hr₂
        | ok fl₂ =>
          cases fl₂ with
          | ret r =>
            obtain ⟨rfl, o, ho, S⟩ := hr₂
            repeat (any_goals (first | assumption | wp_step))
            exact h _ o _ ho S
          | _ => exact hr₂.elim
    | _ => exact hr.elim
end
end Mine
end
section
open PySem PySem.W PySem.Calls PyProof.Rows PySem.Spec
set_option Elab.async false
set_option maxRecDepth 100000
set_option linter.unusedVariables false
namespace Mine
section
variable {prog : Program} {w : World} {A : Around} {E : Value → Shared → Prop} {s s' : Shared} {B : Heap} {os : OsState} {G : Array GenState} {L C a c P D : Addr} {m mC : Str → Option Value} {news news' : List Cell} {o oL : Obj} {K : Frag} {env : Env} {Q : Value → Shared → Prop} {kk : Nat} {pos : Pos}
theorem cInt {n : Int} (S : St B os G L m news s) (h : ∀ t s', St B os G L m news s' → Q (.int n t) s') : wpAny (model prog w) A (eval (.Constant (.int n) kk pos) env) Q E s := wpAny_Constant_int (h _ _ S.tk)
theorem cStr {x : Str} (S : St B os G L m news s) (h : ∀ t s', St B os G L m news s' → Q (.str x t) s') : wpAny (model prog w) A (eval (.Constant (.str x) kk pos) env) Q E s := wpAny_Constant_str (h _ _ S.tk)
theorem modS {x y : Int} {t u : Tok} (S : St B os G L m news s) (hb : y ≠ 0) (h : ∀ t s', St B os G L m news s' → Q (.int (x.fmod y) t) s') : wpAny (model prog w) A (binaryOp .Mod (.int x t) (.int y u)) Q E s := mod_int' hb (h _ _ S.tk)
theorem subS {x y : Int} {t u : Tok} (S : St B os G L m news s) (h : ∀ t s', St B os G L m news s' → Q (.int (x - y) t) s') : wpAny (model prog w) A (binaryOp .Sub (.int x t) (.int y u)) Q E s := PyProof.Rows.sub_int (h _ _ S.tk)
theorem fdivS {x y : Int} {t u : Tok} (S : St B os G L m news s) (hb : y ≠ 0) (hy : y.natAbs < 1000) (h : ∀ t s', St B os G L m news s' → Q (.int (x.fdiv y) t) s') : wpAny (model prog w) A (binaryOp .FloorDiv (.int x t) (.int y u)) Q E s :=
  floordiv_int hb (h _ _ S.tk) (Or.inl (PyProof.noPylong_small (by omega)))
end
end Mine
namespace Mine
section
variable {prog : Program} {w : World} {A : Around} {E : Value → Shared → Prop} {s s' : Shared} {B : Heap} {os : OsState} {G : Array GenState} {L : Addr} {m : Str → Option Value} {news news' : List Cell}
/-- two names stored out of a pair, the second one first -/
theorem swap2S {t : Addr} {v₁ v₂ : Value} {x₁ x₂ : Str} {name : Str} {scope : Scope} {f : Addr} {cd : Value} {Q : Unit → Shared → Prop} (S : St B os G L m news s) (hh : A.handled = none) (ht : (t, tupO #[v₁, v₂]) ∈ news)
    (h : ∀ s', St B os G L (fun y => if y = x₁ then some v₁ else if y = x₂ then some v₂ else m y) news s' → Q () s')
    (hk : scope.kind = .function := by rfl) (hl₁ : (envOf name scope L f cd).kindOf x₁ = some .local := by rfl) (hl₂ : (envOf name scope L f cd).kindOf x₂ = some .local := by rfl) :
    wpAny (model prog w) A (unpackItems (.ref t) [x₁, x₂].length none) (fun items s₂ => wpAny (model prog w) A (assignInOrder ([x₁, x₂].reverse.map fun n => bindName (envOf name scope L f cd) n) items.reverse) Q E s₂) E s := by
  have key : ∀ {n : Nat} {Q' : List Value → Shared → Prop}, n = (#[v₁, v₂] : Array Value).size → (∀ h', Heap.ExtBut s.heap.objs.size s.heap h' → Q' [v₁, v₂] { s with heap := h' }) → wpAny (model prog w) A (unpackItems (.ref t) n none) Q' E s := by
    intro n Q' e hq
    subst e
    exact unpackItems_tuple hh (tup_is (S.get ht)) hq
  refine key rfl (fun h' he => ?_)
  have S₁ := S.extB (t := s.toks) he
  show wpAny _ _ (holding [v₁] (bindName _ x₂ v₂) >>= fun _ => holding [] (bindName _ x₁ v₁) >>= fun _ => pure ()) _ _ _
  refine wpAny_bind (wpAny_holding (wpAny_bindName (stS S₁ (fun s₂ S₂ => ?_) hk hl₂)))
  exact wpAny_bind (wpAny_holding (wpAny_bindName (stS S₂ (fun s₃ S₃ => wpAny_pure (h _ S₃)) hk hl₁)))
end
end Mine
end
section
open PySem PySem.W PySem.Calls PyProof.Rows PySem.Spec
set_option Elab.async false
set_option maxRecDepth 100000
set_option linter.unusedVariables false
namespace Mine
section
variable {prog : Program} {w : World} {A : Around} {E : Value → Shared → Prop} {s s' : Shared} {B : Heap} {os : OsState} {G : Array GenState} {L C a c P D : Addr} {m mC : Str → Option Value} {news news' : List Cell} {o oL : Obj} {K : Frag} {env : Env} {Q : Value → Shared → Prop} {kk : Nat} {pos : Pos}
/-- a loop over a list that stays as it is -/
theorem forL {R : Result → Shared → Prop} {x : Str} {px : Pos} {body : List Stmt} {qual : Str} {scope : Scope} {f : Addr} {cd : Value} {l it : Addr} {oit : Obj} {vs : List Value} {n : Nat} (J : List Value → Array GenState → (Str → Option Value) → List Cell → Prop) (hh : A.handled = none)
    (S : St B os G L m ((it, oit) :: news) s) (hit : LI oit l 0) (hJ : J vs G m news) (hl : ∀ {rem G m news}, J rem G m news → (l, listOf vs.toArray n) ∈ news)
    (turn : ∀ v rem G m news oit s, J (v :: rem) G m news → St B os G L (fun y => if y = x then some v else m y) ((it, oit) :: news) s →
      wpAny (model prog w) A (execs body (envOf qual scope L f cd)) (fun fl s₃ => match fl with
        | .next | .cont => ∃ G' m' news', J rem G' m' news' ∧ St B os G' L m' ((it, oit) :: news') s₃
        | .brk => R (.ok .next) s₃
        | .ret v => R (.ok (.ret v)) s₃) (notedBy (model prog w) A (envOf qual scope L f cd) fun e s' => R (.error e) s') s)
    (fin : ∀ G m news s, J [] G m news → St B os G L m news s → R (.ok .next) s)
    (hk : scope.kind = .function := by rfl) (hx : (envOf qual scope L f cd).kindOf x = some .local := by rfl) :
    codeAny (model prog w) A (.forLoop (.Name x px) (.ref it) body [] (envOf qual scope L f cd)) R s := by
  refine codeAny_forLoop (fun k s => ∃ pre rem G m news oit, k = rem.length ∧ vs = pre ++ rem ∧ LI oit l pre.length ∧ J rem G m news ∧ St B os G L m ((it, oit) :: news) s) ?_ vs.length ⟨[], vs, G, m, news, oit, rfl, rfl, hit, hJ, S⟩
  rintro k s ⟨pre, rem, G, m, news, oit, rfl, hvs, hit, hJ, S⟩
  cases rem with
  | nil =>
    refine endL hh S (hl hJ) hit (by rw [hvs]; simp) (fun s S => ?_)
    exact wpAny_execs_nil (fin G m news s hJ S)
  | cons v rem =>
    refine nextL S (.tail _ (hl hJ)) (fun o' => .head) hit (x := v) (by rw [hvs]; simp) (fun oit' s hit' S => ?_)
    refine wpAny_assign_Name (stS S (fun s S => ?_) hk hx)
    refine wpAny_mono (turn v rem G m news oit' s hJ S) (fun fl s₃ h₃ => ?_) fun _ _ z => z
    have go : (∃ G' m' news', J rem G' m' news' ∧ St B os G' L m' ((it, oit') :: news') s₃) → ∃ k, k < (v :: rem).length ∧ ∃ pre rem G m news oit, k = rem.length ∧ vs = pre ++ rem ∧ LI oit l pre.length ∧ J rem G m news ∧ St B os G L m ((it, oit) :: news) s₃ := by
      rintro ⟨G', m', news', hJ', S'⟩
      exact ⟨rem.length, by simp, pre ++ [v], rem, G', m', news', oit', rfl, by rw [hvs]; simp, by simpa using hit', hJ', S'⟩
    cases fl with
    | next => exact go h₃
    | cont => exact go h₃
    | brk => exact h₃
    | ret v => exact h₃
theorem addL {l b : Addr} {vs ws : List Value} (S : St B os G L m news s) (hl : s.heap.IsList l vs.toArray) (hb : s.heap.IsList b ws.toArray) (hz : vs.length + ws.length ≤ 1000)
    (h : ∀ a s', St B os G L m ((a, listOf (vs ++ ws).toArray 0) :: news) s' → Q (.ref a) s') : wpAny (model prog w) A (binaryOp .Add (.ref l) (.ref b)) Q E s :=
  add_lists S.F S.N hl hb (fun h' F' N' => h _ _ (S.cons (s' := { s with heap := h' }) F' N' fun _ hp => S.lt hp)) (by rw [PySem.sizeLine_eq]; omega)
theorem itemL {value slice : PySem.Expr} {D : Addr} {l : List Value} {x : Value} {n : Nat} {k : Int} {u : Tok} (S : St B os G L m news s) (hl : (D, listOf l.toArray n) ∈ news) (h0 : 0 ≤ k) (hk : l[k.toNat]? = some x) (h : Q x s)
    (hs : subscripted slice false (.ref D) (.int k u) = operate [.ref D, .int k u] (getItem (.ref D) (.int k u)) := by with_unfolding_all rfl) (hz : l.length ≤ 1000 := by simp) : wpAny (model prog w) A (subscriptTail value slice (.ref D) (.int k u)) Q E s := by
  have hlt : k.toNat < l.length := (List.getElem?_eq_some_iff.mp hk).1
  refine subscriptTail_builtinR (listOf_isList (S.get hl)).typeIs slot_list_getitem.lookup (wpAny_getItem_list (Q := fun r s' => r = x ∧ Q r s') (listOf_isList (S.get hl)) h0 (by omega) (by simpa using hk) ⟨rfl, h⟩) hs
end
end Mine
end
section
open PySem PySem.W PySem.Calls PyProof.Rows PySem.Spec
set_option Elab.async false
set_option maxRecDepth 100000
set_option linter.unusedVariables false
namespace Mine
/-- an iterator by what it has still to give -/
structure Wk (prog : Program) (w : World) (A : Around) (B : Heap) (os : OsState) (it : Addr) (src : Cell) (IT : List Value → Obj → Prop) : Prop where
  next : ∀ {E : Value → Shared → Prop} {Q : Option Value → Shared → Prop} {G L m news s v rem oit}, IT (v :: rem) oit → src ∈ news → St B os G L m ((it, oit) :: news) s → (∀ oit' s', IT rem oit' → St B os G L m ((it, oit') :: news) s' → Q (some v) s') → wpAny (model prog w) A (pyNext (.ref it)) Q E s
  fin : ∀ {E : Value → Shared → Prop} {Q : Option Value → Shared → Prop} {G L m news s oit}, IT [] oit → src ∈ news → St B os G L m ((it, oit) :: news) s → (∀ s', St B os G L m news s' → Q none s') → wpAny (model prog w) A (pyNext (.ref it)) Q E s
  self : ∀ {E : Value → Shared → Prop} {Q : Value → Shared → Prop} {G L m news s rem oit}, IT rem oit → (it, oit) ∈ news → St B os G L m news s → Q (.ref it) s → wpAny (model prog w) A (pyIter (.ref it)) Q E s
section
variable {prog : Program} {w : World} {A : Around} {E : Value → Shared → Prop} {s s' : Shared} {B : Heap} {os : OsState} {G : Array GenState} {L C a c P D : Addr} {m mC : Str → Option Value} {news news' : List Cell} {o oL : Obj} {K : Frag} {env : Env} {Q : Value → Shared → Prop} {kk : Nat} {pos : Pos}
theorem wkList (hh : A.handled = none) {l it : Addr} {vs : List Value} {n : Nat} : Wk prog w A B os it (l, listOf vs.toArray n) (fun rem oit => ∃ pre, vs = pre ++ rem ∧ LI oit l pre.length) where
  next := fun {E Q G L m news s v rem oit} ⟨pre, hv, hi⟩ hs S k => nextL S (.tail _ hs) (fun o' => .head) hi (x := v) (by rw [hv]; simp) (fun oit' s hit' S => k oit' s ⟨pre ++ [v], by rw [hv]; simp, by simpa using hit'⟩ S)
  fin := fun {E Q G L m news s oit} ⟨pre, hv, hi⟩ hs S k => endL hh S hs hi (by rw [hv]; simp) k
  self := fun ⟨pre, hv, hi⟩ hm S h => selfL S hm hi h
/-- an object that walks the list l from behind, i to come next -/
def RI (o : Obj) (l : Addr) (i : Int) : Prop := o.cls = .type "list_reverseiterator" ∧ o.data = .fields #[.ref l, rawInt i]
theorem revL {l : Addr} {vs : List Value} {n : Nat} (S : St B os G L m news s) (hl : (l, listOf vs.toArray n) ∈ news) (h : ∀ it oit s', RI oit l ((vs.length : Int) - 1) → St B os G L m ((it, oit) :: news) s' → Q (.ref it) s') : wpAny (model prog w) A (call (.type "reversed") [.ref l]) Q E s := by
  refine call_reversed_list (listOf_isList (S.get hl)) (h _ _ _ ⟨rfl, ?_⟩ (S.push (t := s.toks) _))
  rw [List.size_toArray]; rfl
theorem St.lost {it : Addr} {oit : Obj} (S : St B os G L m ((it, oit) :: news) s) {h' : Heap} {t : Nat} (hx' : Heap.ExtBut it s.heap h') : St B os G L m news { s with heap := h', toks := t } := by
  have z := S.N _ (.head _)
  have nd := S.nd
  rw [List.map_cons, List.nodup_cons] at nd
  refine ⟨⟨S.F.ns.extBut hx' z.2.1.symm, fun b o e => hx' b o (fun q => by rw [q, z.2.2] at e; cases e) (S.F.keep b o e), S.F.above⟩, fun p hp => ?_, nd.2, S.gens, S.bare, S.os⟩
  have y := S.N p (.tail _ hp)
  exact ⟨hx' _ _ (fun q => nd.1 (by show it ∈ _; rw [← q]; exact List.mem_map_of_mem (f := Prod.fst) hp)) y.1, y.2⟩
theorem wkRev (hh : A.handled = none) {l it : Addr} {vs : List Value} {n : Nat} : Wk prog w A B os it (l, listOf vs.toArray n) (fun rem oit => ∃ post, vs = rem.reverse ++ post ∧ RI oit l ((rem.length : Int) - 1)) where
  next := fun {E Q G L m news s v rem oit} ⟨post, hv, hi⟩ hs S k => by
    have hx : vs.toArray[rem.length]? = some v := by
      rw [hv]; simp
    have hi' : RI oit l ((rem.length : Nat) : Int) := by
      have e : (((v :: rem).length : Int) - 1) = (rem.length : Int) := by simp
      rw [← e]; exact hi
    refine wpAny_pyNext_rev_item ⟨oit, S.get (.head _), hi'.1, hi'.2⟩ (listOf_isList (S.get (.tail _ hs))) hx (fun h' hit hsb => ?_)
    obtain ⟨o', e, h1, h2⟩ := hit
    exact k o' _ ⟨v :: post, by rw [hv]; simp, h1, h2⟩ (S.same (t := s.toks) .head hsb e)
  fin := fun {E Q G L m news s oit} ⟨post, hv, hi⟩ hs S k => wpAny_pyNext_rev_end hh ⟨oit, S.get (.head _), hi.1, hi.2⟩ (fun h' hx => k _ (S.lost (t := s.toks) hx))
  self := fun ⟨pre, hv, hi⟩ hm S h => wpAny_pyIter_revIter ⟨_, S.get hm, hi.1, hi.2⟩ h
/-- a list comprehension, its value -/
theorem compL {elt iter : PySem.Expr} {x : Str} {px pos : Pos} {ifs : List PySem.Expr} {scope cs : Scope} {cn : Str} {ccd : Value} {a : Addr} (hh : A.handled = none)
    (hclos : closureFor scope (envOf cn cs L a ccd) = pure []) (hcell : ∀ z ∈ scope.names, z.2 ≠ .cell) (hkind : scope.kind = .function)
    (hnames : ∀ z ∈ scope.names, z.2 = .local → scope.names.lookup z.1 = some .local) (hx : scope.names.lookup x = some .local)
    (hs : ∀ x, foldedSetIterable iter (envOf cn cs L a ccd) x = pure x)
    (J : List Value → Array GenState → List Cell → List Value → Prop) (bound : Nat) (hb : bound ≤ 10000)
    (h : wpAny (model prog w) A (eval iter (envOf cn cs L a ccd)) (fun v s₁ => wpAny (model prog w) A (pyIter v) (fun itv s₂ => ∃ it src IT vs oit G₁ news₁, itv = .ref it ∧ Wk prog w A B os it src IT ∧ IT vs oit ∧ J vs G₁ news₁ [] ∧ St B os G₁ L m ((it, oit) :: news₁) s₂ ∧ (∀ rem G news out, J rem G news out → src ∈ news ∧ out.length + rem.length ≤ bound) ∧
      (∀ v rem out acc na C oL oit mC G news s₃ E', J (v :: rem) G news out → FrC B L oL m → mC x = some v → St B os G C mC ((it, oit) :: (acc, listOf out.toArray na) :: (L, oL) :: news) s₃ →
        wpAny (model prog w) A (forIn ifs true fun c r => if r = true then do let ok ← isTrue c (compEnvC scope [] C (envOf cn cs L a ccd)) (eval c (compEnvC scope [] C (envOf cn cs L a ccd))); pure (ForInStep.yield ok) else pure (ForInStep.yield r)) (fun ok s₄ =>
          if ok = true then wpAny (model prog w) A (eval elt (compEnvC scope [] C (envOf cn cs L a ccd))) (fun y s₅ => ∃ G' news', J rem G' news' (out ++ [y]) ∧ St B os G' C mC ((it, oit) :: (acc, listOf out.toArray na) :: (L, oL) :: news') s₅) E' s₄
          else ∃ G' news', J rem G' news' out ∧ St B os G' C mC ((it, oit) :: (acc, listOf out.toArray na) :: (L, oL) :: news') s₄) E' s₃) ∧
      (∀ G news out acc na s₃, J [] G news out → St B os G L m ((acc, listOf out.toArray na) :: news) s₃ → Q (.ref acc) s₃)) E s₁) E s) :
    wpAny (model prog w) A (eval (.ListComp elt [⟨.Name x px, iter, ifs, 0⟩] scope pos) (envOf cn cs L a ccd)) Q E s := by
  rw [eval_ListComp]
  refine wpAny_comprehension_free (use := none) rfl hs hclos hkind hnames (wpAny_mono h (fun xv s₁ h₁ => wpAny_mono h₁ (fun itv s₂ h₂ => ?_) fun _ _ e => e) fun _ _ e => e)
  obtain ⟨it, src, IT, vs, oit, G₁, news₁, rfl, WK, hit, hJ, S, hJs, turn, fin⟩ := h₂
  refine listS S (fun acc s S => ?_)
  refine comp_enter (R := fun C => compPost (model prog w) A E none Q _ C) S hcell hkind (fun C oL s f S => ?_)
  have S : St B os G₁ C (fun _ => none) ((it, oit) :: (acc, listOf [].toArray 0) :: (L, oL) :: news₁) s := S.perm ((List.Perm.cons _ (List.Perm.swap ..)).trans ((List.Perm.swap ..).trans (List.Perm.cons _ (List.Perm.swap ..))))
  have loop : ∀ {s}, St B os G₁ C (fun _ => none) ((it, oit) :: (acc, listOf [].toArray 0) :: (L, oL) :: news₁) s → codeAny (model prog w) A (.compLoop (.ListComp elt [⟨.Name x px, iter, ifs, 0⟩] scope pos) 0 (.ref it) (.ref acc) (compEnvC scope [] C (envOf cn cs L a ccd))) (compPost (model prog w) A E none Q (.ref acc) C) s := by
    intro s S
    refine codeAny_compLoop_tests (fun k s => ∃ rem out na oit mC G news, k = rem.length ∧ IT rem oit ∧ J rem G news out ∧ St B os G C mC ((it, oit) :: (acc, listOf out.toArray na) :: (L, oL) :: news) s) ?_ vs.length ⟨vs, [], 0, oit, _, G₁, news₁, rfl, hit, hJ, S⟩
    rintro k s ⟨rem, out, na, oit, mC, G, news, rfl, hit, hJ, S⟩
    obtain ⟨hsrc, hbd⟩ := hJs _ _ _ _ hJ
    cases rem with
    | nil =>
      refine WK.fin hit (.tail _ (.tail _ hsrc)) S (fun s S => ?_)
      exact comp_none (S.perm (List.Perm.swap ..)) f (fun s S => fin _ _ _ _ _ _ hJ S)
    | cons v rem =>
      refine WK.next hit (.tail _ (.tail _ hsrc)) S (fun oit' s hit' S => ?_)
      refine wpAny_assign_Name (wpAny_storeName_local (lookup_relabel_local hx) S.F.ns (fun h' hn hs => ?_) (by simp [compEnvC, relabel, hkind]))
      have S' : St B os G C (fun y => if y = x then some v else mC y) ((it, oit') :: (acc, listOf out.toArray na) :: (L, oL) :: news) { s with heap := h', toks := s.toks + 1 } := by
        refine ⟨⟨hn, fun b o e => (hs.2 b fun q => ?_).trans (S.F.keep b o e), S.F.above⟩, fun p hp => ⟨(hs.2 p.1 (S.N p hp).2.1).trans (S.N p hp).1, (S.N p hp).2⟩, S.nd, S.gens, S.bare, S.os⟩
        have := base_none S.F.above
        rw [q] at e
        exact absurd (e.symm.trans this) (by simp)
      refine wpAny_mono (turn v rem out acc na C oL oit' _ G news _ _ hJ f (if_pos rfl) S') (fun ok s₄ h₄ => ?_) fun _ _ z => z
      cases ok with
      | false =>
        rw [if_neg (by decide)] at h₄ ⊢
        obtain ⟨G', news', hJ', S⟩ := h₄
        exact ⟨rem.length, by simp, rem, out, na, oit', _, G', news', rfl, hit', hJ', S⟩
      | true =>
        rw [if_pos rfl] at h₄ ⊢
        refine wpAny_mono h₄ (fun y s₅ h₅ => ?_) fun _ _ z => z
        obtain ⟨G', news', hJ', S⟩ := h₅
        simp only [List.length_cons] at hbd
        refine appendL S (.tail .head) (fun s S => ?_) (by omega)
        exact ⟨rem.length, by simp, rem, out ++ [y], na + 1, oit', _, G', news', rfl, hit', hJ', S⟩
  exact codeAny_compStart_list (loop S) (WK.self hit (.head _) S (loop S))
end
end Mine
namespace Mine
section
variable {prog : Program} {w : World} {A : Around} {E : Value → Shared → Prop} {s s' : Shared} {B : Heap} {os : OsState} {G : Array GenState} {L : Addr} {m : Str → Option Value} {news news' : List Cell}
theorem extM {D : Addr} {its : Array Value} {n : Nat} {pl : Sem Bool} {Q : Value × List Value → Shared → Prop} (S : St B os G L m news s) (hl : (D, listOf its n) ∈ news) (h : Q (.builtin "list.extend", [.ref D]) s) : wpAny (model prog w) A (getMethod (.ref D) "extend" pl) Q E s :=
  kl_method S.N hl PySem.F.slot_list_extend PySem.F.type_list_extend h
theorem extL {D b : Addr} {l l2 : List Value} {n n2 : Nat} {Q : Value → Shared → Prop} (S : St B os G L m news s) (hb : (b, listOf l2.toArray n2) ∈ news) (hne : l2 ≠ []) (U : Up D (listOf l.toArray n) (listOf (l ++ l2).toArray (n + 1)) news news') (hz : l.length + l2.length ≤ 1000)
    (h : ∀ s', St B os G L m news' s' → Q .none s') : wpAny (model prog w) A (call (.builtin "list.extend") [.ref D, .ref b]) Q E s := by
  refine kl_extend (its := l.toArray) (its2 := l2.toArray) (n2 := n2) S.F S.N hb (l := l ++ l2) rfl (by simpa using hne) (U.upd S.nd) ?_ (by rw [PySem.sizeLine_eq]; simp; omega) (by rw [PySem.sizeLine_eq]; simp; omega) (fun h' F' N' => h _ (S.to (s' := { s with heap := h' }) F' N' U.keys))
  have : Builtin.List.listTooLong (l.toArray.size + l2.toArray.size) = false := by
    unfold Builtin.List.listTooLong
    rw [PySem.sizeLine_eq]
    simp
    omega
  rw [this]; simp
end
end Mine
end
section
open PySem PySem.W PySem.Calls PyProof.Rows PySem.Spec
set_option Elab.async false
set_option maxRecDepth 100000
set_option linter.unusedVariables false
namespace Mine
theorem sub_bytes_str : isSubtype (.type "bytes") (.type "str") = pure false := by rw [isSubtype_type]; kernel_rfl
section
variable {prog : Program} {w : World} {A : Around} {E : Value → Shared → Prop} {h : Heap} {g : Array GenState} {d : Drawn} {t : Nat} {os : OsState}
set_option maxHeartbeats 1000000 in
theorem setAll_tree {D sl b : Addr} {its its2 : Array Value} {n n2 : Nat} {Q : Fin → Shared → Prop} (hD : h.get? D = some (listOf its n)) (hs : h.get? sl = some sliO) (hb : h.get? b = some (listOf its2 n2)) (hne : (D == b) = false) (hsz : its.size + its2.size ≤ 1000)
    (hq : ∀ f : Array Value → Array Value, f its = its2 → Q (.done (.ret .none)) ⟨h.update D (Obj.mapSeq f), g, d, t, os⟩) :
    wpAny (model prog w) A (Builtin.«list.__setitem__» ⟨[.ref D, .ref sl, .ref b], []⟩) Q E ⟨h, g, d, t, os⟩ := by
  have hT : (⟨h, g, d, t, os⟩ : Shared).TypeIs (.ref D) "list" := ⟨_, hD, rfl⟩
  have hT2 : (⟨h, g, d, t, os⟩ : Shared).TypeIs (.ref sl) "slice" := ⟨_, hs, rfl⟩
  have hT3 : (⟨h, g, d, t, os⟩ : Shared).TypeIs (.ref b) "list" := ⟨_, hb, rfl⟩
  have f1 := lk_slice_index
  have hdd : (listOf its n).data = .seq its n := rfl
  have hss : Builtin.List.listSameRef (.ref D) (.ref b) = false := hne
  have htl : Builtin.List.listTooLong (its.size + its2.size) = false := by
    unfold Builtin.List.listTooLong
    rw [PySem.sizeLine_eq]
    simp
    omega
  unfold Builtin.«list.__setitem__»
  repeat (any_goals (first | assumption | (with_reducible refine wpAny_updateSeq hD hdd ?_ ?s1 ?s2) | wp_step))
  case s1 => rw [PySem.sizeLine_eq]; omega
  case s2 =>
    show (its.extract 0 (if (1 : Int) > 0 then 0 else (its.size : Int) - 1).toNat ++ its2 ++ its.extract (max (if (1 : Int) > 0 then 0 else (its.size : Int) - 1) (if (1 : Int) > 0 then (its.size : Int) else -1)).toNat).size ≤ _
    rw [PySem.sizeLine_eq, if_pos (by decide), if_pos (by decide)]
    simp
    omega
  refine hq (fun xs => xs.extract 0 (if (1 : Int) > 0 then 0 else (its.size : Int) - 1).toNat ++ its2 ++ xs.extract (max (if (1 : Int) > 0 then 0 else (its.size : Int) - 1) (if (1 : Int) > 0 then (its.size : Int) else -1)).toNat) ?_
  show its.extract 0 (if (1 : Int) > 0 then 0 else (its.size : Int) - 1).toNat ++ its2 ++ its.extract (max (if (1 : Int) > 0 then 0 else (its.size : Int) - 1) (if (1 : Int) > 0 then (its.size : Int) else -1)).toNat = its2
  rw [if_pos (by decide), if_pos (by decide)]
  have e : (max (0 : Int) (its.size : Int)).toNat = its.size := by omega
  rw [e]
  simp
end
section
variable {prog : Program} {w : World} {A : Around} {E : Value → Shared → Prop} {s s' : Shared} {B : Heap} {os : OsState} {G : Array GenState} {L : Addr} {m : Str → Option Value} {news news' : List Cell} {Q : Value → Shared → Prop}
theorem isiYes {x : Str} {t : Tok} (h : Q (.bool true) s) : wpAny (model prog w) A (call (.builtin "isinstance") [.str x t, .type "str"]) Q E s := IsiPair.str_str h
theorem isiNo {v : Value} (S : St B os G L m news s) (hv : NoTxt news v) (h : ∀ s', St B os G L m news s' → Q (.bool false) s') : wpAny (model prog w) A (call (.builtin "isinstance") [v, .type "str"]) Q E s := by
  cases hv with
  | none => exact IsiPair.NoneType_str (h _ S.tk)
  | int => exact IsiPair.int_str (h _ S.tk)
  | bool => exact IsiPair.bool_str (h _ S.tk)
  | bytes =>
    have S' := S.tk (t := s.toks + 1)
    obtain ⟨hp, g, d, tk, oo⟩ := s
    refine call_isinstance_of ?_ (fun e => by cases e)
    exact isinstance_nested_false_bytes (by decide +kernel) F.isi_meta_str sub_bytes_str (h _ S')
  | list hm => exact IsiPair.list_str (S.get hm) rfl (h _ S.tk)
  | tup hm => exact IsiPair.tuple_str (S.get hm) rfl (h _ S.tk)
theorem tupEq {a b : Addr} {k n : Int} {x y : Str} {t1 t2 t3 t4 : Tok} (S : St B os G L m news s) (ha : (a, tupO #[.int k t1, .str x t2]) ∈ news) (hb : (b, tupO #[.int n t3, .str y t4]) ∈ news) (hu : A.units < cLine) (h : Q (.bool (decide (k = n) && decide (x = y))) s) :
    wpAny (model prog w) A (compareOp .Eq (.ref a) (.ref b)) Q E s := by
  refine SeqAt.eq_tupleAt (e := fun j => if j = 0 then k == n else x == y) (tup_is (S.get ha)) (tup_is (S.get hb)) hu (fun j h1 h2 => ?_) ?_
  · have h1' : j < 2 := h1
    rcases (show j = 0 ∨ j = 1 by omega) with rfl | rfl
    · exact SeqAt.EqAt.int_int k t1 n t3
    · exact SeqAt.EqAt.str_str x t2 y t4
  · have e : ((List.range (min (#[Value.int k t1, Value.str x t2] : Array Value).size (#[Value.int n t3, Value.str y t4] : Array Value).size)).all (fun j => if j = 0 then k == n else x == y) && (#[Value.int k t1, Value.str x t2] : Array Value).size == (#[Value.int n t3, Value.str y t4] : Array Value).size) = (decide (k = n) && decide (x = y)) := by
      show (((k == n) && ((x == y) && true)) && true) = _
      by_cases h1 : k = n <;> by_cases h2 : x = y <;> simp [h1, h2]
    rw [e]; exact h
theorem listEq {a b : Addr} {vs ws : List Value} {l : List Str} {n n2 : Nat} (S : St B os G L m news s) (ha : (a, listOf vs.toArray n) ∈ news) (hb : (b, listOf ws.toArray n2) ∈ news) (h1 : OutIs vs l) (h2 : OutIs ws l) (hu : A.units < cLine) (h : Q (.bool true) s) :
    wpAny (model prog w) A (compareOp .Eq (.ref a) (.ref b)) Q E s := by
  have e1 := h1.length
  have e2 := h2.length
  obtain ⟨ps, rfl, hp⟩ := h1
  obtain ⟨qs, rfl, hq⟩ := h2
  refine SeqAt.eq_listAt (e := fun _ => true) (listOf_isList (S.get ha)) (listOf_isList (S.get hb)) (by simp only [List.size_toArray]; omega) hu (fun j h1 h2 => ?_) ?_
  · simp only [List.size_toArray] at h1 h2
    have h1' : j < ps.length := by simpa [strValues] using h1
    have h2' : j < qs.length := by simpa [strValues] using h2
    have g1 : (strValues ps).toArray[j] = .str ps[j].1 ps[j].2 := by simp [strValues]
    have g2 : (strValues qs).toArray[j] = .str qs[j].1 qs[j].2 := by simp [strValues]
    have g3 : ps[j].1 = qs[j].1 := by
      have a1 : (ps.map (·.1))[j]? = some ps[j].1 := by simp [h1']
      have a2 : (qs.map (·.1))[j]? = some qs[j].1 := by simp [h2']
      rw [hp] at a1
      rw [hq, a1] at a2
      exact Option.some.inj a2
    rw [g1, g2, g3]
    have := SeqAt.EqAt.str_str (A := A.in1) (s := s) qs[j].1 ps[j].2 qs[j].1 qs[j].2
    simpa using this
  · have e : ((List.range (strValues ps).toArray.size).all fun _ => true) = true := by rw [List.all_eq_true]; intros; rfl
    rw [e]; exact h
theorem sumS {l : Addr} {vs : List Value} {ns : List Int} (hh : A.handled = none) (S : St B os G L m news s) (hl : s.heap.IsList l vs.toArray) (hi : IntsAre vs ns) (h : ∀ t s', St B os G L m news s' → Q (.int ns.sum t) s') : wpAny (model prog w) A (call (.builtin "sum") [.ref l]) Q E s :=
  sumK hh S.F S.N hl hi (fun h' tk t' F' N' => h t' _ (S.to (s' := { s with heap := h', toks := tk }) F' N' rfl))
/-- all the items of a list put in the place of another's -/
theorem setAllS {D sl b : Addr} {l l2 : List Value} {n n2 : Nat} {news' : Nat → List Cell} {Q : Unit → Shared → Prop} (S : St B os G L m news s) (hs : (sl, sliO) ∈ news) (hb : (b, listOf l2.toArray n2) ∈ news) (hne : D ≠ b) (U : ∀ n', Up D (listOf l.toArray n) (listOf l2.toArray n') news (news' n')) (hsz : l.length + l2.length ≤ 1000)
    (h : ∀ n' s', St B os G L m (news' n') s' → Q () s') : wpAny (model prog w) A (setItem (.ref D) (.ref sl) (.ref b)) Q E s := by
  have hD := S.get (U 0).mem
  have hb' := S.get hb
  have hs' := S.get hs
  have hL := listOf_isList hD
  unfold setItem
  try with_reducible refine wpAny_holding ?_
  first | refine wpAny_bind (wpAny_pure ?_) | skip
  refine wpAny_bind (wpAny_sequenceKey hL.typeIs (by decide) ?_)
  refine wpAny_bind (wpAny_callSpecial?_slot (name := Str.ofString "__setitem__") hL.typeIs PySem.F.slot_list_setitem
    (wpAny_call_entry PySem.F.slot_list_setitem hL.typeIs PySem.F.entry_list_setitem ?_ (PySem.F.args_list_setitem_3 _ _ _)))
  obtain ⟨hp, g, d, tk, o⟩ := s
  refine setAll_tree hD hs' hb' (beq_false_of_ne hne) (by simpa using hsz) (fun f hf => ?_)
  obtain ⟨n', e⟩ := mapSeq_any f l.toArray n
  rw [hf] at e
  refine ⟨_, rfl, ?_⟩
  first
  | exact wpAny_pure (h n' _ (S.same (t := tk) (U n') (Heap.SameBut.update ..) (by rw [Heap.get?_update_self _ hD (by rw [e]; rfl), e])))
  | exact h n' _ (S.same (t := tk) (U n') (Heap.SameBut.update ..) (by rw [Heap.get?_update_self _ hD (by rw [e]; rfl), e]))
end
end Mine
end
section
open PySem PySem.W PySem.Calls PyProof.Rows
set_option Elab.async false
set_option maxRecDepth 100000
set_option linter.unusedVariables false
namespace Mine
theorem fill0 : PySem.Challenge.rw_dr0139_04 = PySem.Challenge.rw_dr0139_04 ∧ hd.heap_39 = hd.heap_39 := by
  k_fill
  exact ⟨rfl, rfl⟩
local macro_rules | `(tactic| walk_at "mem") => `(tactic| (repeat (first | assumption | exact List.Mem.head _ | refine List.Mem.tail _ ?_)))
local macro_rules | `(tactic| walk_at "up") => `(tactic| (repeat (first | exact Up.head | refine Up.tail ?_)))
abbrev prog4 : Program := PySem.Challenge.rw_dr0139_04.row.prog
section
variable {w : World} {A : Around} {E : Value → Shared → Prop} {s : Shared} {R : Result → Shared → Prop} {B : Heap} {os : OsState} {G : Array GenState} {L : Addr} {m : Str → Option Value} {news : List Cell}
set_option maxHeartbeats 1000000 in
theorem qname_plain {x dx st : Addr} {od : Obj} {am : Str → Option Value} {li : List Lv} {tag : Str} {t₀ : Tok} (hts : tag.length ≤ sizeLine) (htag : (tag.cps.toList.take 1 == (Str.ofString "{").cps.toList) = false) (C : Cx (hd.heap_39 w.params) B) (hroom : A.depth + 2 < recursionLimit) (hh : A.handled = none)
    (S : St B os G L m news s) (hx : (x, instO 143 dx) ∈ news) (hdd : (dx, od) ∈ news) (ho : NsO od am)
    (a1 : am (Str.ofString "_declared_ns_stack") = some (.ref st)) (a2 : am (Str.ofString "_iter_namespaces") = none) (a3 : am (Str.ofString "_rewrite_prefixes") = some (.bool false)) (stk : StkL st li news) (hsz : ∀ p ∈ li, (p.2.size : Int) < 2 ^ 63) {pp : List (Str × Str)} (hpp : Pairs news (outs li) pp) (hne : ∀ p ∈ pp, p.1 ≠ (Str.ofString "") ∧ p.2 ≠ (Str.ofString "")) (hlen : (outs li).length + 1 < scanBound)
    (k : ∀ G' a t1 t2 t3 s', St B os G' L m ((a, tupO #[.str tag t1, .str tag t2, .str (Str.ofString "") t3]) :: news) s' → R (.ok (.ret (.ref a))) s') :
    codeAny (model prog4 w) A (.call (.ref 83) ⟨[.ref x, .str tag t₀], []⟩) R s := by
  refine' call_fn (K := hd.heap_39 w.params) (binds := [((Str.ofString "self"), .ref x), ((Str.ofString "qname"), .str tag t₀), ((Str.ofString "uri"), .none)]) S C.X C.lim ?ho ?hcd ?hroom ?hbind ?hloc (fun L' oL s fc_ S => ?_) ?hco ?hgen ?hk ?hcell
  case ho => k_is
  case hcd => k_is
  case hco => rfl
  case hgen => rfl
  case hk => rfl
  case hcell => decide
  case hroom => first | omega | (simp only [depth_deeper]; omega) | (simp only [depth_deeper, depth_in1]; omega)
  case hbind => exact BindsTo.of_defaults (T := 76) rfl (S.X C.X _ _ (by k_is)) rfl rfl rfl
  case hloc => exact locs rfl
  simp only [List.reverse_cons, List.reverse_nil, List.nil_append, List.cons_append] at S
  refine wpAny_execs_cons (wpAny_If ?_)
  refine wpAny_isTrue_Compare1 (ld S.F (by rfl) (wpAny_Constant_none (wpAny_is_plain rfl (wpAny_truthy_bool ?_))))
  show wpAny _ _ (execs _ _) _ _ _
  refine wpAny_execs_cons (Assign_Tuple (wpAny_IfExp ?_))
  refine headTest S (by rfl) hts (fun s S => ?_)
  rw [htag]
  show wpAny _ _ (eval _ _) _ _ _
  refine Tuple_ (spliced_more (wpAny_Constant_str ?_))
  refine spliced_more (ld S.F (by rfl) ?_)
  refine spliced_none ?_
  refine tupS S.tk (fun ta s S => ?_)
  refine unpack2S S hh (.head _) (fun s S => ?_)
  refine wpAny_execs_nil ?_
  refine wpAny_execs_cons (wpAny_Assign_Name ?_)
  refine wpAny_Call_ofName (bltS C S (by k_is) PyProof.Rows.boot_set (by decide) ?_)
  refine PyProof.Rows.callWith_type0 ?_
  refine setNewS S (fun ps ops s hps S => ?_)
  refine stS S (fun s S => ?_)
  refine wpAny_execs_cons (wpAny_For ?_)
  refine methodCall_KW (ld S.F (by rfl) ?_)
  refine methS S C.X (by walk_at "mem") (by walk_at "mem") ho (by k_is) (by k_is) (by k_is) a2 ?_
  refine callWith_K (K := hd.heap_39 w.params) C.X (by k_is) ?_
  refine spliced_more (Attribute_Name_ (ld S.F (by rfl) ?_))
  refine attrS S C.X (by walk_at "mem") (by walk_at "mem") ho (by k_is) (by k_is) (by k_is) (by k_is) a1 rfl (fun s S => ?_)
  refine spliced_none ⟨S.X C.X, ?_⟩
  refine wpAny_call ?_
  show codeAny _ _ (.call (.ref 68) ⟨[.ref x, .ref st], []⟩) _ _
  refine' call_gen (K := hd.heap_39 w.params) (binds := [((Str.ofString "self"), .ref x), ((Str.ofString "ns_stack"), .ref st), ((Str.ofString "_reversed"), .type "reversed")]) S C.X C.lim ?ho ?hcd ?hroom ?hbind ?hloc (fun Lg oLg ga tg1 tg2 s hLg S => ?_) ?hco ?hgen ?hk ?hcell
  case ho => k_is
  case hcd => k_is
  case hco => rfl
  case hgen => rfl
  case hk => rfl
  case hcell => decide
  case hroom => first | omega | (simp only [depth_deeper]; omega) | (simp only [depth_deeper, depth_in1]; omega)
  case hbind => exact BindsTo.of_defaults (T := 61) rfl (S.X C.X _ _ (by k_is)) rfl rfl rfl
  case hloc => exact locs rfl
  simp only [List.reverse_cons, List.reverse_nil, List.nil_append, List.cons_append] at hLg
  show wpAny _ _ (pyIter (.ref ga)) _ _ _
  refine wpAny_pyIter_gen (g := G.size) ⟨_, _, _, S.get (.tail _ (.head _)), rfl, rfl, rfl⟩ ?_
  refine qloop_none (gc := [(Lg, oLg)]) (rest := (ta, _) :: (L, oL) :: news) (uri := (Str.ofString "")) (pp := pp) hh C.lim (by first | omega | (simp only [depth_deeper]; omega)) S rfl rfl rfl (stk.mono fun p hp => .tail _ (.tail _ hp)) hsz (GenAt.of_push S hLg (by rfl) (by rfl)) hps (by omega) (hpp.mono fun p hp => .tail _ (.tail _ hp)) (fun p hp => (hne p hp).1) (by rfl) (by rfl) ?_ rfl rfl rfl rfl rfl rfl
  intro G' m' ops' T' k' s S hT hsub hm
  refine wpAny_execs_cons (wpAny_If (wpAny_isTrue_value (Attribute_Name_ (ld S.F ((hm _ (by decide) (by decide)).trans (by rfl)) ?_))))
  refine attrS S C.X (by walk_at "mem") (by walk_at "mem") ho (by k_is) (by k_is) (by k_is) (by k_is) a3 rfl (fun s S => ?_)
  refine wpAny_truthy_bool ?_
  rw [if_false' rfl]
  refine wpAny_execs_nil ?_
  refine wpAny_execs_cons (wpAny_If (wpAny_isTrue_BoolOp (wpAny_allTrue_And_cons ?_)))
  refine wpAny_isTrue_Not (wpAny_isTrue_value (ld S.F ((hm _ (by decide) (by decide)).trans (by rfl)) ?_))
  refine PySem.P.truthy_str (by decide) ?_
  rw [if_pos (by decide)]
  refine wpAny_allTrue_And_cons (wpAny_isTrue_Compare1 (wpAny_Constant_str (ld S.F ((hm _ (by decide) (by decide)).trans (by rfl)) ?_)))
  refine notInS S.tk (by walk_at "mem") hT (fun s S => wpAny_truthy_bool ?_)
  have hT0 : T' (Str.ofString "") = false := by
    cases q : T' (Str.ofString "") with
    | false => rfl
    | true =>
      rcases hsub _ q with h | ⟨p, hp, e⟩
      · cases h
      · exact absurd e (hne p hp).2
  rw [hT0, if_pos (by decide)]
  refine wpAny_allTrue_And_nil ?_
  rw [if_pos (by decide)]
  refine wpAny_execs_cons (wpAny_Return_some (Tuple_ ?_))
  refine spliced_more (ld S.F ((hm _ (by decide) (by decide)).trans (by rfl)) ?_)
  refine spliced_more (ld S.F ((hm _ (by decide) (by decide)).trans (by rfl)) ?_)
  refine spliced_more (ld S.F ((hm _ (by decide) (by decide)).trans (by rfl)) ?_)
  refine spliced_none ?_
  refine tupS S (fun tr s S => ?_)
  have S₁ : St B os G' L' m' ([(tr, _)] ++ ([(L, oL)] ++ news)) s := S.drop (List.Sublist.cons₂ _ (List.Sublist.cons _ (List.Sublist.cons _ (List.Sublist.cons _ (List.Sublist.refl _)))))
  exact k G' tr _ _ _ s (St.back S₁.swap fc_)
end
end Mine
end
section
open PySem PySem.W PySem.Calls PyProof.Rows
set_option Elab.async false
set_option maxRecDepth 100000
set_option linter.unusedVariables false
namespace Mine
local macro_rules | `(tactic| walk_at "mem") => `(tactic| (repeat (first | assumption | exact List.Mem.head _ | refine List.Mem.tail _ ?_)))
local macro_rules | `(tactic| walk_at "up") => `(tactic| (repeat (first | exact Up.head | refine Up.tail ?_)))
section
variable {w : World} {A : Around} {E : Value → Shared → Prop} {s : Shared} {R : Result → Shared → Prop} {B : Heap} {os : OsState} {G : Array GenState} {L : Addr} {m : Str → Option Value} {rest W : List Cell} {wc sp : Bool} {x da pl : Addr} {b : Abs}
set_option maxHeartbeats 1000000 in
theorem data_add {v : Value} (C : Cx (hd.heap_39 w.params) B) (hroom : A.depth + 1 < recursionLimit) (S : St B os G L m (W ++ rest) s) (hW : Wr prog4 w 143 wc sp x da pl b W) (hign : b.ign = 0) (hsz : b.data.length < 1000)
    (k : ∀ W' s', Wr prog4 w 143 wc sp x da pl { b with data := b.data ++ [v] } W' → St B os G L m (W' ++ rest) s' → R (.ok (.ret .none)) s') :
    codeAny (model prog4 w) A (.call (.ref 90) ⟨[.ref x, v], []⟩) R s := by
  obtain ⟨σ, rfl, ⟨⟨⟨am, nz, a⟩, es, hps⟩, rfl, rfl, rfl, hda, hou, hde, hns, hnz⟩⟩ := hW
  rw [hign] at a
  rw [← hda] at hsz
  have ho := nz.o
  obtain ⟨ti, ai⟩ := a.ign
  refine' call_fn (K := hd.heap_39 w.params) (binds := [((Str.ofString "self"), .ref σ.x), ((Str.ofString "data"), v)]) S C.X C.lim ?ho ?hcd ?hroom ?hbind ?hloc (fun L' oL s fc_ S => ?_) ?hco ?hgen ?hk ?hcell
  case ho => k_is
  case hcd => k_is
  case hco => rfl
  case hgen => rfl
  case hk => rfl
  case hcell => decide
  case hroom => first | omega | (simp only [depth_deeper]; omega) | (simp only [depth_deeper, depth_in1]; omega)
  case hbind => exact BindsTo.of_eq rfl
  case hloc => exact locs rfl
  simp only [List.reverse_cons, List.reverse_nil, List.nil_append, List.cons_append] at S
  refine wpAny_execs_cons (wpAny_If (wpAny_isTrue_Not (wpAny_isTrue_value (Attribute_Name_ (ld S.F (by rfl) ?_)))))
  refine attrS S C.X (by walk_at "mem") (by walk_at "mem") ho (by k_is) (by k_is) (by k_is) (by k_is) ai rfl (fun s S => ?_)
  refine PyProof.Rows.truthy_int ?_
  rw [if_true' (by decide)]
  refine wpAny_execs_cons (wpAny_Expr_any ?_ (by rfl) (by rfl))
  refine methodCall_KW (Attribute_Name_ (ld S.F (by rfl) ?_))
  refine attrS S C.X (by walk_at "mem") (by walk_at "mem") ho (by k_is) (by k_is) (by k_is) (by k_is) a.data rfl (fun s S => ?_)
  refine appM S (by walk_at "mem") ?_
  refine callWith_method1 ?_ rfl
  refine spliced_more (ld S.F (by rfl) ?_)
  refine spliced_none ?_
  refine appendL S (Up.tail (Up.tail (Up.tail Up.head))) (fun s S => ?_) (by omega)
  refine wpAny_execs_nil ?_
  refine wpAny_execs_nil ?_
  refine k _ _ ⟨{ σ with data := σ.data ++ [v], nd := σ.nd + 1 }, rfl, ⟨⟨⟨am, nz, ?_⟩, es, hps⟩, rfl, rfl, rfl, by rw [hda], hou, hde, hns, hnz⟩⟩ (S.back fc_)
  show Am4 am _ wc sp b.seen b.done b.ign
  rw [hign]
  exact a.same ⟨rfl, rfl, rfl, rfl, rfl, rfl⟩
theorem data_skip {v : Value} (C : Cx (hd.heap_39 w.params) B) (hroom : A.depth + 1 < recursionLimit) (S : St B os G L m (W ++ rest) s) (hW : Wr prog4 w 143 wc sp x da pl b W) (hign : b.ign ≠ 0)
    (k : ∀ s', St B os G L m (W ++ rest) s' → R (.ok (.ret .none)) s') :
    codeAny (model prog4 w) A (.call (.ref 90) ⟨[.ref x, v], []⟩) R s := by
  obtain ⟨σ, rfl, ⟨⟨⟨am, nz, a⟩, es, hps⟩, rfl, rfl, rfl, hda, hou, hde, hns, hnz⟩⟩ := hW
  have ho := nz.o
  obtain ⟨ti, ai⟩ := a.ign
  refine' call_fn (K := hd.heap_39 w.params) (binds := [((Str.ofString "self"), .ref σ.x), ((Str.ofString "data"), v)]) S C.X C.lim ?ho ?hcd ?hroom ?hbind ?hloc (fun L' oL s fc_ S => ?_) ?hco ?hgen ?hk ?hcell
  case ho => k_is
  case hcd => k_is
  case hco => rfl
  case hgen => rfl
  case hk => rfl
  case hcell => decide
  case hroom => first | omega | (simp only [depth_deeper]; omega) | (simp only [depth_deeper, depth_in1]; omega)
  case hbind => exact BindsTo.of_eq rfl
  case hloc => exact locs rfl
  simp only [List.reverse_cons, List.reverse_nil, List.nil_append, List.cons_append] at S
  refine wpAny_execs_cons (wpAny_If (wpAny_isTrue_Not (wpAny_isTrue_value (Attribute_Name_ (ld S.F (by rfl) ?_)))))
  refine attrS S C.X (by walk_at "mem") (by walk_at "mem") ho (by k_is) (by k_is) (by k_is) (by k_is) ai rfl (fun s S => ?_)
  refine PyProof.Rows.truthy_int ?_
  rw [if_false' (by simp; omega)]
  refine wpAny_execs_nil ?_
  refine wpAny_execs_nil ?_
  exact k _ (S.back fc_)
end
end Mine
end
section
open PySem PySem.W PySem.Calls PyProof.Rows
set_option Elab.async false
set_option maxRecDepth 100000
set_option linter.unusedVariables false
namespace Mine
local macro_rules | `(tactic| walk_at "mem") => `(tactic| (repeat (first | assumption | exact List.Mem.head _ | refine List.Mem.tail _ ?_)))
local macro_rules | `(tactic| walk_at "up") => `(tactic| (repeat (first | exact Up.head | refine Up.tail ?_)))
section
variable {w : World} {A : Around} {E : Value → Shared → Prop} {s : Shared} {R : Result → Shared → Prop} {B : Heap} {os : OsState} {G : Array GenState} {L : Addr} {m : Str → Option Value} {rest news W : List Cell} {wc sp : Bool} {x da pl : Addr} {b : Abs}

def escT (x : Str) : Str := esc1 (Str.ofString "\r") (Str.ofString "&#xD;") (esc1 (Str.ofString ">") (Str.ofString "&gt;") (esc1 (Str.ofString "<") (Str.ofString "&lt;") (esc1 (Str.ofString "&") (Str.ofString "&amp;") x)))
set_option maxHeartbeats 1000000 in
theorem escape_spec {x : Str} {t : Tok} (hx : x.length ≤ 1000) (C : Cx (hd.heap_39 w.params) B) (hroom : A.depth + 1 < recursionLimit) (S : St B os G L m news s)
    (k : ∀ t' s', St B os G L m news s' → R (.ok (.ret (.str (escT x) t'))) s') : codeAny (model prog4 w) A (.call (.ref 154) ⟨[.str x t], []⟩) R s := by
  have l1 : (Str.ofString "&amp;").length ≤ 5 := by decide
  have l2 : (Str.ofString "&lt;").length ≤ 4 := by decide
  have l3 : (Str.ofString "&gt;").length ≤ 4 := by decide
  have h1 := esc1_length (c := (Str.ofString "&")) hx l1
  have h2 := esc1_length (c := (Str.ofString "<")) h1 l2
  have h3 := esc1_length (c := (Str.ofString ">")) h2 l3
  refine' call_fn (K := hd.heap_39 w.params) (binds := [((Str.ofString "text"), .str x t)]) S C.X C.lim ?ho ?hcd ?hroom ?hbind ?hloc (fun L' oL s fc_ S => ?_) ?hco ?hgen ?hk ?hcell
  case ho => k_is
  case hcd => k_is
  case hco => rfl
  case hgen => rfl
  case hk => rfl
  case hcell => decide
  case hroom => first | omega | (simp only [depth_deeper]; omega) | (simp only [depth_deeper, depth_in1]; omega)
  case hbind => exact BindsTo.of_eq rfl
  case hloc => exact locs rfl
  simp only [List.reverse_cons, List.reverse_nil, List.nil_append, List.cons_append] at S
  refine wpAny_execs_cons (wpAny_Try_except ?_)
  refine wpAny_execs_cons (esc_stage S (by rfl) hx (by decide) (by decide) (fun t1 s m1 e1 S => ?_) rfl rfl rfl)
  refine wpAny_execs_cons (esc_stage S e1 h1 (by decide) (by decide) (fun t2 s m2 e2 S => ?_) rfl rfl rfl)
  refine wpAny_execs_cons (esc_stage S e2 h2 (by decide) (by decide) (fun t3 s m3 e3 S => ?_) rfl rfl rfl)
  refine wpAny_execs_cons (esc_stage S e3 h3 (by decide) (by decide) (fun t4 s m4 e4 S => ?_) rfl rfl rfl)
  refine wpAny_execs_cons (wpAny_Return_some (ld S.F e4 ?_))
  exact k t4 _ (S.back fc_)
end
end Mine
end
section
open PySem PySem.W PySem.Calls PyProof.Rows
set_option Elab.async false
set_option maxRecDepth 100000
set_option linter.unusedVariables false
namespace Mine
local macro_rules | `(tactic| walk_at "mem") => `(tactic| (repeat (first | assumption | exact List.Mem.head _ | refine List.Mem.tail _ ?_)))
local macro_rules | `(tactic| walk_at "up") => `(tactic| (repeat (first | exact Up.head | refine Up.tail ?_)))
section
variable {w : World} {A : Around} {E : Value → Shared → Prop} {s : Shared} {R : Result → Shared → Prop} {B : Heap} {os : OsState} {G : Array GenState} {L : Addr} {m : Str → Option Value} {rest news W : List Cell} {wc sp : Bool} {x da pl : Addr} {b : Abs}

/-- the text that a flush writes -/
def flTxt (sp : Bool) (l : List (Str × Tok)) : Str := if sp = true then Txt.strip (Txt.join (Str.ofString "") (l.map (·.1))) else Txt.join (Str.ofString "") (l.map (·.1))
def flOut (sp : Bool) (l : List (Str × Tok)) : List Str := if flTxt sp l = (Str.ofString "") then [] else [escT (flTxt sp l)]
set_option maxHeartbeats 1000000 in
theorem flush_good {l : List (Str × Tok)} (C : Cx (hd.heap_39 w.params) B) (hroom : A.depth + 3 < recursionLimit) (hh : A.handled = none) (S : St B os G L m (W ++ rest) s) (hW : Wr prog4 w 143 wc sp x da pl b W) (hdat : b.data = strValues l) (hseen : b.seen = true)
    (hln : l.length < 300) (hl : ∀ p ∈ l, p.1.length ≤ 3) (hout : b.out.length < 1000)
    (k : ∀ W' s', Wr prog4 w 143 wc sp x da pl { b with data := [], out := b.out ++ flOut sp l } W' → St B os G L m (W' ++ rest) s' → R (.ok (.ret .none)) s') :
    codeAny (model prog4 w) A (.call (.ref 99) ⟨[.ref x], []⟩) R s := by
  obtain ⟨σ, rfl, ⟨⟨⟨am, nz, a⟩, es, hps⟩, rfl, rfl, rfl, hda, hou, hde, hns, hnz⟩⟩ := hW
  rw [← hda] at hdat
  have ho := nz.o
  refine' call_fn (K := hd.heap_39 w.params) (binds := [((Str.ofString "self"), .ref σ.x), ((Str.ofString "_join_text"), .ref 91)]) S C.X C.lim ?ho ?hcd ?hroom ?hbind ?hloc (fun L' oL s fc_ S => ?_) ?hco ?hgen ?hk ?hcell
  case ho => k_is
  case hcd => k_is
  case hco => rfl
  case hgen => rfl
  case hk => rfl
  case hcell => decide
  case hroom => first | omega | (simp only [depth_deeper]; omega) | (simp only [depth_deeper, depth_in1]; omega)
  case hbind => exact BindsTo.of_defaults (T := 92) rfl (S.X C.X _ _ (by k_is)) rfl rfl rfl
  case hloc => exact locs rfl
  simp only [List.reverse_cons, List.reverse_nil, List.nil_append, List.cons_append] at S
  refine wpAny_execs_cons (wpAny_Assign_Name ?_)
  refine wpAny_Call_ofName (ld S.F (by rfl) ?_)
  refine callWith_bmS (fs := #[.builtin "str.join", .str (Str.ofString "") 430]) ?_
  refine spliced_more (Attribute_Name_ (ld S.F (by rfl) ?_))
  refine attrS S C.X (by walk_at "mem") (by walk_at "mem") ho (by k_is) (by k_is) (by k_is) (by k_is) a.data rfl (fun s S => ?_)
  refine spliced_none ⟨S.X C.X _ _ (by k_is), ?_⟩
  obtain ⟨hj, hjl⟩ := join_small hl (by omega)
  refine joinS (l := l) (n := σ.nd) S (S.X C.X _ _ (by k_is)) (by rw [← hdat]; exact (List.Mem.tail _ (List.Mem.tail _ (List.Mem.tail _ (List.Mem.head _))))) hj (fun tj s S => ?_)
  refine stS S (fun s S => ?_)
  refine wpAny_execs_cons (wpAny_Delete (deleteOne (wpAny_delete_Subscript (Attribute_Name_ (ld S.F (by rfl) ?_)))))
  refine attrS S C.X (by walk_at "mem") (by walk_at "mem") ho (by k_is) (by k_is) (by k_is) (by k_is) a.data rfl (fun s S => ?_)
  refine sliceS S (fun sl s S => ?_)
  refine delAllS S (List.Mem.head _) (fun n' => (Up.tail (Up.tail (Up.tail (Up.tail Up.head))))) (by rw [PySem.sizeLine_eq, List.size_toArray, hdat]; simp [strValues]; omega) (fun n' s S => ?_)
  have S := S.drop (List.sublist_cons_self _ _)
  have ho := nz.o
  refine stmt_cut (fun s => ∃ m' t', m' (Str.ofString "self") = some (.ref σ.x) ∧ m' (Str.ofString "data") = some (.str (flTxt sp l) t') ∧ St B os G L' m' ((L, oL) :: ({ σ with data := [], nd := n' }.cells 143 ++ rest)) s) ?_ ?_
  · refine wpAny_If (wpAny_isTrue_BoolOp (wpAny_allTrue_And_cons ?_))
    refine wpAny_isTrue_value (Attribute_Name_ (ld S.F (by rfl) ?_))
    refine attrS S C.X (by walk_at "mem") (by walk_at "mem") ho (by k_is) (by k_is) (by k_is) (by k_is) a.sp rfl (fun s S => ?_)
    refine wpAny_truthy_bool ?_
    cases sp with
    | false => exact ifF rfl (ifF rfl (wpAny_execs_nil ⟨rfl, _, tj, by rfl, by rfl, S⟩))
    | true =>
      refine ifT rfl ?_
      refine wpAny_allTrue_And_cons (wpAny_isTrue_Not (wpAny_isTrue_value (Subscript_ (Attribute_Name_ (ld S.F (by rfl) ?_)))))
      refine attrS S C.X (by walk_at "mem") (by walk_at "mem") ho (by k_is) (by k_is) (by k_is) (by k_is) a.psp rfl (fun s S => ?_)
      refine minus1 S (fun tt s S => ?_)
      refine lastS (l := List.replicate σ.dec.length (.bool false)) (x := .bool false) (n := σ.nps) S (by rw [← List.replicate_succ', ← hps]; exact (List.Mem.tail _ (List.Mem.tail _ (List.Mem.tail _ (List.Mem.tail _ (List.Mem.tail _ (List.Mem.tail _ (List.Mem.head _)))))))) ?_
      refine wpAny_truthy_bool (ifT rfl (wpAny_allTrue_And_nil (ifT rfl ?_)))
      refine wpAny_execs_cons (wpAny_Assign_Name ?_)
      refine methodCall_KW (ld S.F (by rfl) ?_)
      refine GM.strip ?_
      refine callWith_method0 ?_
      refine SC.strip (fun t' kk => ?_)
      refine stS S.tk (fun s S => ?_)
      exact wpAny_execs_nil ⟨rfl, _, t', by rfl, by rfl, S⟩
  · rintro s ⟨m', t', e1, e2, S⟩
    refine wpAny_execs_cons (wpAny_If (wpAny_isTrue_Compare1 (Attribute_Name_ (ld S.F e1 ?_))))
    refine attrS S C.X (by walk_at "mem") (by walk_at "mem") ho (by k_is) (by k_is) (by k_is) (by k_is) a.pend rfl (fun s S => ?_)
    refine wpAny_Constant_none (wpAny_isNot_plain rfl (wpAny_truthy_bool (ifF rfl (wpAny_execs_nil ?_))))
    refine wpAny_execs_cons (wpAny_If (wpAny_isTrue_BoolOp (wpAny_allTrue_And_cons (wpAny_isTrue_value (ld S.F e2 ?_)))))
    have hsz : (flTxt sp l).length ≤ 1000 := by
      unfold flTxt
      split
      · have := fact_strip (Txt.join (Str.ofString "") (l.map (·.1)))
        omega
      · omega
    refine PySem.P.truthy_str (by omega) ?_
    rw [str_len0]
    by_cases he : flTxt sp l = (Str.ofString "")
    · refine ifF (by simp [he]) (ifF rfl (wpAny_execs_nil (wpAny_execs_nil ?_)))
      refine k _ _ ⟨{ σ with data := [], nd := n' }, rfl, ⟨⟨⟨am, nz, a.same ⟨rfl, rfl, rfl, rfl, rfl, rfl⟩⟩, es, hps⟩, rfl, rfl, rfl, rfl, ?_, hde, hns, hnz⟩⟩ (S.tk.back fc_)
      show OutIs σ.out (b.out ++ flOut sp l)
      rw [flOut, if_pos he, List.append_nil]; exact hou
    · refine ifT (by simp [he]) ?_
      refine wpAny_allTrue_And_cons (wpAny_isTrue_value (Attribute_Name_ (ld S.tk.F e1 ?_)))
      refine attrS S.tk C.X (List.Mem.tail _ (List.Mem.head _)) (List.Mem.tail _ (List.Mem.tail _ (List.Mem.head _))) ho (by k_is) (by k_is) (by k_is) (by k_is) a.seen rfl (fun s S => ?_)
      rw [hseen]
      refine wpAny_truthy_bool (ifT rfl (wpAny_allTrue_And_nil (ifT rfl ?_)))
      refine wpAny_execs_cons (wpAny_Expr_any ?_ (by rfl) (by rfl))
      refine methodCall_KW (ld S.F e1 ?_)
      refine valM S C.X (List.Mem.tail _ (List.Mem.head _)) (List.Mem.tail _ (List.Mem.tail _ (List.Mem.head _))) ho (by k_is) (by k_is) (by k_is) a.write rfl (fun s S => ?_)
      refine callWith_bmS (fs := #[.builtin "list.append", .ref σ.pl]) ?_
      refine spliced_more (wpAny_Call_ofName (globS C S (by k_is) ?_))
      refine callWith_K (K := hd.heap_39 w.params) C.X (by k_is) ?_
      refine spliced_more (ld S.F e2 ?_)
      refine spliced_none ⟨S.X C.X, wpAny_call ?_⟩
      refine escape_spec hsz C (by first | omega | (simp only [depth_deeper]; omega)) S (fun t4 s S => ?_)
      refine spliced_none ⟨S.get (List.Mem.tail _ (List.Mem.tail _ (List.Mem.tail _ (List.Mem.tail _ (List.Mem.tail _ (List.Mem.tail _ (List.Mem.tail _ (List.Mem.tail _ (List.Mem.head _))))))))), ?_⟩
      refine bmCallL S (List.Mem.tail _ (List.Mem.tail _ (List.Mem.tail _ (List.Mem.tail _ (List.Mem.tail _ (List.Mem.tail _ (List.Mem.tail _ (List.Mem.tail _ (List.Mem.head _))))))))) (Up.tail (Up.tail (Up.tail (Up.tail (Up.tail (Up.tail (Up.tail (Up.tail (Up.tail Up.head))))))))) (fun s S => ?_) (by rw [hou.length]; omega)
      refine wpAny_execs_nil (wpAny_execs_nil ?_)
      refine k _ _ ⟨{ σ with data := [], nd := n', out := σ.out ++ [.str (escT (flTxt sp l)) t4], npl := σ.npl + 1 }, rfl, ⟨⟨⟨am, nz, a.same ⟨rfl, rfl, rfl, rfl, rfl, rfl⟩⟩, es, hps⟩, rfl, rfl, rfl, rfl, ?_, hde, hns, hnz⟩⟩ (S.back fc_)
      show OutIs _ (b.out ++ flOut sp l)
      rw [flOut, if_neg he]; exact hou.snoc _ _
end
end Mine
end
section
open PySem PySem.W PySem.Calls PyProof.Rows
set_option Elab.async false
set_option maxRecDepth 100000
set_option linter.unusedVariables false
namespace Mine
local macro_rules | `(tactic| walk_at "mem") => `(tactic| (repeat (first | assumption | exact List.Mem.head _ | refine List.Mem.tail _ ?_)))
local macro_rules | `(tactic| walk_at "up") => `(tactic| (repeat (first | exact Up.head | refine Up.tail ?_)))
section
variable {w : World} {A : Around} {E : Value → Shared → Prop} {s : Shared} {R : Result → Shared → Prop} {B : Heap} {os : OsState} {G : Array GenState} {L : Addr} {m : Str → Option Value} {rest news W : List Cell} {wc sp : Bool} {x da pl : Addr} {b : Abs}

variable {outer : List Env} {fm : List FMap} {fc : List Cell} {en : Str} {esc : Scope} {ea : Addr} {ecd : Value}
/-- a writer that holds what is no text -/
structure Spoilt (b : Abs) (rest : List Cell) : Prop where
  all : ∀ v ∈ b.data, TxtOr rest v
  bad : ∃ v ∈ b.data, NoTxt rest v
  sz : b.data.length < 1000
theorem TxtOr.mono {news news' : List Cell} {v : Value} (h : TxtOr news v) (hs : ∀ p ∈ news, p ∈ news') : TxtOr news' v := h.imp id fun x => x.mono hs
set_option maxHeartbeats 1000000 in
theorem flush_bad (C : Cx (hd.heap_39 w.params) B) (hroom : A.depth + 2 < recursionLimit) (hh : A.handled = none) (hfr : A.frames = some (envOf en esc L ea ecd :: outer)) (hek : esc.kind = .function) (FF : OutF B outer fm fc) (S : St B os G L m (fc ++ rest) s)
    (hW : Wr prog4 w 143 wc sp x da pl b W) (hWr : ∀ p ∈ W, p ∈ rest) (sb : Spoilt b rest)
    (k : ∀ e s', Fly B os G (envOf en esc L ea ecd :: outer) ((L, m) :: fm) rest e s' → R (.error (.ref e)) s') :
    codeAny (model prog4 w) A (.call (.ref 99) ⟨[.ref x], []⟩) R s := by
  obtain ⟨σ, rfl, ⟨⟨⟨am, nz, a⟩, es, hps⟩, rfl, rfl, rfl, hda, hou, hde, hns, hnz⟩⟩ := hW
  have ho := nz.o
  have i1 := hWr _ (List.Mem.head _)
  have i2 := hWr _ (List.Mem.tail _ (List.Mem.head _))
  have i3 := hWr _ (List.Mem.tail _ (List.Mem.tail _ (List.Mem.head _)))
  refine' call_fn (K := hd.heap_39 w.params) (binds := [((Str.ofString "self"), .ref σ.x), ((Str.ofString "_join_text"), .ref 91)]) S C.X C.lim ?ho ?hcd ?hroom ?hbind ?hloc (fun L' oL s fc_ S => ?_) ?hco ?hgen ?hk ?hcell
  case ho => k_is
  case hcd => k_is
  case hco => rfl
  case hgen => rfl
  case hk => rfl
  case hcell => decide
  case hroom => first | omega | (simp only [depth_deeper]; omega) | (simp only [depth_deeper, depth_in1]; omega)
  case hbind => exact BindsTo.of_defaults (T := 92) rfl (S.X C.X _ _ (by k_is)) rfl rfl rfl
  case hloc => exact locs rfl
  simp only [List.reverse_cons, List.reverse_nil, List.nil_append, List.cons_append] at S
  have up : ∀ p ∈ rest, p ∈ (L, oL) :: (fc ++ rest) := fun p hp => .tail _ (List.mem_append.mpr (.inr hp))
  refine wpAny_execs_cons (wpAny_Assign_Name ?_)
  refine wpAny_Call_ofName (ld S.F (by rfl) ?_)
  refine callWith_bmS (fs := #[.builtin "str.join", .str (Str.ofString "") 430]) ?_
  refine spliced_more (Attribute_Name_ (ld S.F (by rfl) ?_))
  refine attrS S C.X (up _ i1) (up _ i2) ho (by k_is) (by k_is) (by k_is) (by k_is) a.data rfl (fun s S => ?_)
  refine spliced_none ⟨S.X C.X _ _ (by k_is), ?_⟩
  refine joinBad hh S (S.X C.X _ _ (by k_is)) (up _ i3) (by rw [List.size_toArray, hda]; exact Nat.lt_trans sb.sz (by decide)) (by rw [hda]; exact fun v hv => (sb.all v (by simpa using hv)).mono up) (by
    obtain ⟨v, hv, hn⟩ := sb.bad
    exact ⟨v, by rw [hda]; simpa using hv, hn.mono up⟩) (fun h' tk e hx => ?_)
  exact leave_new (fc := (L, oL) :: fc) hfr (FF.cons fc_ hek) S hx (fun s' F => k e s' F)
end
end Mine
end
section
open PySem PySem.W PySem.Calls PyProof.Rows
set_option Elab.async false
set_option maxRecDepth 100000
set_option linter.unusedVariables false
namespace Mine
local macro_rules | `(tactic| walk_at "mem") => `(tactic| (repeat (first | assumption | exact List.Mem.head _ | refine List.Mem.tail _ ?_)))
local macro_rules | `(tactic| walk_at "up") => `(tactic| (repeat (first | exact Up.head | refine Up.tail ?_)))
section
variable {w : World} {A : Around} {E : Value → Shared → Prop} {s : Shared} {R : Result → Shared → Prop} {B : Heap} {os : OsState} {G : Array GenState} {L : Addr} {m : Str → Option Value} {rest news W : List Cell} {wc sp : Bool} {x da pl : Addr} {b : Abs}

variable {outer : List Env} {fm : List FMap} {fc : List Cell} {en : Str} {esc : Scope} {ea : Addr} {ecd : Value}
theorem flOut_nil (sp : Bool) : flOut sp [] = [] := by cases sp <;> decide +kernel
theorem truthy_listS {D : Addr} {l : List Value} {n : Nat} {Q : Bool → Shared → Prop} (S : St B os G L m news s) (hl : (D, listOf l.toArray n) ∈ news) (hz : l.length < 1000000) (h : ∀ s', St B os G L m news s' → Q (!l.isEmpty) s') : wpAny (model prog4 w) A (truthy (.ref D)) Q E s := by
  refine wpAny_truthy_list (listOf_isList (S.get hl)) (by simp; omega) ?_
  rw [List.isEmpty_toArray]
  exact h _ S.tk
variable {l : List (Str × Tok)}
/-- the held texts written, where there are any -/
theorem flushIf {p1 p2 p3 p4 p5 p6 p7 : Pos} {qual : Str} {scope : Scope} {f : Addr} {cd : Value} {Q : Flow → Shared → Prop} (C : Cx (hd.heap_39 w.params) B) (hroom : A.depth + 3 < recursionLimit) (hh : A.handled = none) (S : St B os G L m (W ++ rest) s) (hW : Wr prog4 w 143 wc sp x da pl b W) (hdat : b.data = strValues l) (hseen : b.seen = true ∨ b.data = [])
    (hln : l.length < 300) (hl : ∀ p ∈ l, p.1.length ≤ 3) (hout : b.out.length < 1000) (hm : m (Str.ofString "self") = some (.ref x)) (hsk : scope.kind = .function) (hlk : (envOf qual scope L f cd).kindOf (Str.ofString "self") = some .local) (hline : (p4.endLine == p5.line) = true)
    (k : ∀ W' s', Wr prog4 w 143 wc sp x da pl { b with data := [], out := b.out ++ flOut sp l } W' → St B os G L m (W' ++ rest) s' → Q .next s') :
    wpAny (model prog4 w) A (exec (.If (.Attribute (.Name (Str.ofString "self") p1) (Str.ofString "_data") p2) [.Expr (.Call (.Attribute (.Name (Str.ofString "self") p3) (Str.ofString "_flush") p4) [] [] p5) p6] [] p7) (envOf qual scope L f cd)) Q E s := by
  obtain ⟨σ, hc, hi⟩ := id hW
  obtain ⟨⟨⟨am, nz, a⟩, es, hps⟩, e1, e2, e3, hda, hou, hde, hns, hnz⟩ := hi
  subst e1 e2 e3
  have ho := nz.o
  rw [hc] at S
  refine wpAny_If (wpAny_isTrue_value (Attribute_Name_ (ld S.F hm ?_ hsk hlk)))
  refine attrS S C.X (List.Mem.head _) (List.Mem.tail _ (List.Mem.head _)) ho (by k_is) (by k_is) (by k_is) (by k_is) a.data rfl (fun s S => ?_)
  refine truthy_listS S (List.Mem.tail _ (List.Mem.tail _ (List.Mem.head _))) (by rw [hda, hdat]; simp [strValues]; omega) (fun s S => ?_)
  rw [hda, hdat]
  cases l with
  | nil =>
    refine ifF rfl (wpAny_execs_nil ?_)
    refine k _ _ ⟨σ, rfl, ⟨⟨⟨am, nz, a⟩, es, hps⟩, rfl, rfl, rfl, hda.trans hdat, ?_, hde, hns, hnz⟩⟩ S
    show OutIs σ.out (b.out ++ flOut sp [])
    rw [flOut_nil, List.append_nil]; exact hou
  | cons q r =>
    refine ifT rfl ?_
    refine wpAny_execs_cons (wpAny_Expr_any ?_ (by show (scope.kind == .module && (scope.more.any _)) = false; rw [hsk]; rfl) (by rfl))
    refine methodCall_S rfl rfl hline (ld S.F hm (fun pl => ?_) hsk hlk)
    refine methS S C.X (List.Mem.head _) (List.Mem.tail _ (List.Mem.head _)) ho (by k_is) (by k_is) (by k_is) a.m3 ?_
    refine callWith_K0 (K := hd.heap_39 w.params) (S.X C.X) (by k_is) ?_
    refine wpAny_call ?_
    show codeAny _ _ (.call (.ref 99) ⟨[.ref σ.x], []⟩) _ _
    refine flush_good C hroom hh S ⟨σ, rfl, ⟨⟨⟨am, nz, a⟩, es, hps⟩, rfl, rfl, rfl, hda, hou, hde, hns, hnz⟩⟩ hdat (hseen.resolve_right (by rw [hdat]; simp [strValues])) hln hl hout (fun W' s' hW' S' => ?_)
    exact wpAny_execs_nil (k W' s' hW' S')
set_option maxHeartbeats 1000000 in
theorem sns_skip {v1 v2 : Value} (C : Cx (hd.heap_39 w.params) B) (hroom : A.depth + 1 < recursionLimit) (S : St B os G L m (W ++ rest) s) (hW : Wr prog4 w 143 wc sp x da pl b W) (hign : b.ign ≠ 0)
    (k : ∀ s', St B os G L m (W ++ rest) s' → R (.ok (.ret .none)) s') :
    codeAny (model prog4 w) A (.call (.ref 106) ⟨[.ref x, v1, v2], []⟩) R s := by
  obtain ⟨σ, rfl, ⟨⟨⟨am, nz, a⟩, es, hps⟩, rfl, rfl, rfl, hda, hou, hde, hns, hnz⟩⟩ := hW
  have ho := nz.o
  obtain ⟨ti, ai⟩ := a.ign
  refine' call_fn (K := hd.heap_39 w.params) (binds := [((Str.ofString "self"), .ref σ.x), ((Str.ofString "prefix"), v1), ((Str.ofString "uri"), v2)]) S C.X C.lim ?ho ?hcd ?hroom ?hbind ?hloc (fun L' oL s fc_ S => ?_) ?hco ?hgen ?hk ?hcell
  case ho => k_is
  case hcd => k_is
  case hco => rfl
  case hgen => rfl
  case hk => rfl
  case hcell => decide
  case hroom => first | omega | (simp only [depth_deeper]; omega) | (simp only [depth_deeper, depth_in1]; omega)
  case hbind => exact BindsTo.of_eq rfl
  case hloc => exact locs rfl
  simp only [List.reverse_cons, List.reverse_nil, List.nil_append, List.cons_append] at S
  refine wpAny_execs_cons (wpAny_If (wpAny_isTrue_value (Attribute_Name_ (ld S.F (by rfl) ?_))))
  refine attrS S C.X (by walk_at "mem") (by walk_at "mem") ho (by k_is) (by k_is) (by k_is) (by k_is) ai rfl (fun s S => ?_)
  refine PyProof.Rows.truthy_int (ifT (by simp; omega) ?_)
  exact wpAny_execs_cons (wpAny_Return_none (k _ (S.back fc_)))
set_option maxHeartbeats 1000000 in
theorem sns_good {v1 v2 : Value} (C : Cx (hd.heap_39 w.params) B) (hroom : A.depth + 4 < recursionLimit) (hh : A.handled = none) (S : St B os G L m (W ++ rest) s) (hW : Wr prog4 w 143 wc sp x da pl b W) (hign : b.ign = 0) (hdat : b.data = strValues l) (hseen : b.seen = true ∨ b.data = [])
    (hln : l.length < 300) (hl : ∀ p ∈ l, p.1.length ≤ 3) (hout : b.out.length < 1000) (hnn : b.nsm < 900)
    (k : ∀ W' s', Wr prog4 w 143 wc sp x da pl { b with data := [], out := b.out ++ flOut sp l, nsm := b.nsm + 1 } W' → St B os G L m (W' ++ rest) s' → R (.ok (.ret .none)) s') :
    codeAny (model prog4 w) A (.call (.ref 106) ⟨[.ref x, v1, v2], []⟩) R s := by
  obtain ⟨σ, hc, hi⟩ := id hW
  obtain ⟨⟨⟨am, nz, a⟩, es, hps⟩, e1, e2, e3, hda, hou, hde, hns, hnz⟩ := hi
  have ho := nz.o
  obtain ⟨ti, ai⟩ := a.ign
  refine' call_fn (K := hd.heap_39 w.params) (binds := [((Str.ofString "self"), .ref x), ((Str.ofString "prefix"), v1), ((Str.ofString "uri"), v2)]) S C.X C.lim ?ho ?hcd ?hroom ?hbind ?hloc (fun L' oL s fc_ S => ?_) ?hco ?hgen ?hk ?hcell
  case ho => k_is
  case hcd => k_is
  case hco => rfl
  case hgen => rfl
  case hk => rfl
  case hcell => decide
  case hroom => first | omega | (simp only [depth_deeper]; omega) | (simp only [depth_deeper, depth_in1]; omega)
  case hbind => exact BindsTo.of_eq rfl
  case hloc => exact locs rfl
  simp only [List.reverse_cons, List.reverse_nil, List.nil_append, List.cons_append] at S
  have S0 := S
  rw [hc] at S
  refine wpAny_execs_cons (wpAny_If (wpAny_isTrue_value (Attribute_Name_ (ld S.F (by rfl) ?_))))
  rw [← e1]
  refine attrS S C.X (by walk_at "mem") (by walk_at "mem") ho (by k_is) (by k_is) (by k_is) (by k_is) ai rfl (fun s S => ?_)
  refine PyProof.Rows.truthy_int (ifF (by rw [hign]; rfl) (wpAny_execs_nil ?_))
  rw [← hc] at S
  refine wpAny_execs_cons (flushIf (rest := (L, oL) :: rest) C (by first | omega | (simp only [depth_deeper]; omega)) hh S.sink hW hdat hseen hln hl hout (by rfl) rfl rfl rfl (fun W' s hW' S => ?_))
  obtain ⟨σ', hc', hi'⟩ := hW'
  obtain ⟨⟨⟨am, nz, a⟩, es, hps⟩, e1, e2, e3, hda, hou, hde, hns, hnz⟩ := hi'
  have S := S.rise
  subst hc' e1 e2 e3
  refine wpAny_execs_cons (wpAny_Expr_any ?_ (by rfl) (by rfl))
  refine methodCall_KW (Subscript_ (Attribute_Name_ (ld S.F (by rfl) ?_)))
  have ho := nz.o
  refine attrS S C.X (List.Mem.tail _ (List.Mem.head _)) (List.Mem.tail _ (List.Mem.tail _ (List.Mem.head _))) ho (by k_is) (by k_is) (by k_is) (by k_is) a.nss rfl (fun s S => ?_)
  refine minus1 S (fun tt s S => ?_)
  obtain ⟨init, q, hq⟩ : ∃ init q, σ'.nsl = init ++ [q] := by
    rcases List.eq_nil_or_concat σ'.nsl with h | ⟨i, q, h⟩
    · rw [h] at hns; simp at hns
    · exact ⟨i, q, by rw [h, List.concat_eq_append]⟩
  have hqz := hnz q (by rw [hq]; simp)
  have U := fun its' n' => Up.tail (p := (L, oL)) ((W4.upLast (C := 143) hq its' n').app rest)
  refine lastS (l := init.map fun q => .ref q.1) (x := .ref q.1) (n := σ'.nns) S (by
    have e : (σ'.nsl.map fun q => Value.ref q.1) = (init.map fun q => Value.ref q.1) ++ [.ref q.1] := by rw [hq]; simp
    rw [← e]; exact (List.Mem.tail _ (List.Mem.tail _ (List.Mem.tail _ (List.Mem.tail _ (List.Mem.tail _ (List.Mem.head _))))))) ?_
  refine appM S (U q.2.1 q.2.2).mem ?_
  refine callWith_method1 ?_ rfl
  refine spliced_more (Tuple_ ?_)
  refine spliced_more (ld S.F (by rfl) ?_)
  refine spliced_more (ld S.F (by rfl) ?_)
  refine spliced_none ?_
  refine tupS S (fun ta s S => ?_)
  refine spliced_none ?_
  refine appendS S (Up.tail (U (q.2.1.push (.ref ta)) (q.2.2 + 1))) (fun s S => ?_) (by rw [PySem.sizeLine_eq]; simp only at hqz; omega)
  refine wpAny_execs_nil ?_
  refine k _ _ ⟨{ σ' with nsl := init ++ [(q.1, q.2.1.push (.ref ta), q.2.2 + 1)] }, rfl, ⟨⟨⟨am, nz, a.same ⟨rfl, rfl, rfl, rfl, rfl, rfl⟩⟩, es, hps⟩, rfl, rfl, rfl, hda, hou, hde, ?_, ?_⟩⟩ ((S.drop (List.sublist_cons_self _ _)).back fc_)
  · show (init ++ [_]).length = _
    rw [hq] at hns
    simpa using hns
  · intro q' hq'
    rcases List.mem_append.mp hq' with h | h
    · have := hnz q' (by rw [hq]; exact List.mem_append.mpr (.inl h))
      exact Nat.le_trans this (by simp only; omega)
    · rw [List.mem_singleton.mp h]
      simp only [Array.size_push]
      simp only at hqz
      omega
end
end Mine
end
section
open PySem PySem.W PySem.Calls PyProof.Rows
set_option Elab.async false
set_option maxRecDepth 100000
set_option linter.unusedVariables false
namespace Mine
local macro_rules | `(tactic| walk_at "mem") => `(tactic| (repeat (first | assumption | exact List.Mem.head _ | refine List.Mem.tail _ ?_)))
local macro_rules | `(tactic| walk_at "up") => `(tactic| (repeat (first | exact Up.head | refine Up.tail ?_)))
section
variable {w : World} {A : Around} {E : Value → Shared → Prop} {s : Shared} {R : Result → Shared → Prop} {B : Heap} {os : OsState} {G : Array GenState} {L : Addr} {m : Str → Option Value} {rest news W : List Cell} {wc sp : Bool} {x da pl : Addr} {b : Abs}

variable {outer : List Env} {fm : List FMap} {fc : List Cell} {en : Str} {esc : Scope} {ea : Addr} {ecd : Value}
theorem flushIf_bad {p1 p2 p3 p4 p5 p6 p7 : Pos} {qual : Str} {scope : Scope} {f : Addr} {cd : Value} {Q : Flow → Shared → Prop} (C : Cx (hd.heap_39 w.params) B) (hroom : A.depth + 2 < recursionLimit) (hh : A.handled = none) (hfr : A.frames = some (envOf qual scope L f cd :: outer)) (FF : OutF B outer fm fc) (S : St B os G L m (fc ++ rest) s)
    (hW : Wr prog4 w 143 wc sp x da pl b W) (hWr : ∀ p ∈ W, p ∈ rest) (sb : Spoilt b rest) (hm : m (Str.ofString "self") = some (.ref x)) (hsk : scope.kind = .function) (hlk : (envOf qual scope L f cd).kindOf (Str.ofString "self") = some .local) (hline : (p4.endLine == p5.line) = true)
    (k : ∀ e s', Fly B os G (envOf qual scope L f cd :: outer) ((L, m) :: fm) rest e s' → E (.ref e) s') :
    wpAny (model prog4 w) A (exec (.If (.Attribute (.Name (Str.ofString "self") p1) (Str.ofString "_data") p2) [.Expr (.Call (.Attribute (.Name (Str.ofString "self") p3) (Str.ofString "_flush") p4) [] [] p5) p6] [] p7) (envOf qual scope L f cd)) Q E s := by
  obtain ⟨σ, hc, hi⟩ := id hW
  obtain ⟨⟨⟨am, nz, a⟩, es, hps⟩, e1, e2, e3, hda, hou, hde, hns, hnz⟩ := hi
  subst hc e1 e2 e3
  have ho := nz.o
  have up : ∀ p ∈ rest, p ∈ fc ++ rest := fun p hp => List.mem_append.mpr (.inr hp)
  have i1 := up _ (hWr _ (List.Mem.head _))
  have i2 := up _ (hWr _ (List.Mem.tail _ (List.Mem.head _)))
  have i3 := up _ (hWr _ (List.Mem.tail _ (List.Mem.tail _ (List.Mem.head _))))
  refine wpAny_If (wpAny_isTrue_value (Attribute_Name_ (ld S.F hm ?_ hsk hlk)))
  refine attrS S C.X i1 i2 ho (by k_is) (by k_is) (by k_is) (by k_is) a.data rfl (fun s S => ?_)
  refine truthy_listS S i3 (by rw [hda]; exact Nat.lt_trans sb.sz (by decide)) (fun s S => ?_)
  refine ifT (by
    obtain ⟨v, hv, _⟩ := sb.bad
    rw [← hda] at hv
    cases hq : σ.data with
    | nil => rw [hq] at hv; cases hv
    | cons _ _ => rfl) ?_
  refine wpAny_execs_cons (wpAny_Expr_any ?_ (by show (scope.kind == .module && (scope.more.any _)) = false; rw [hsk]; rfl) (by rfl))
  refine methodCall_S rfl rfl hline (ld S.F hm (fun pl => ?_) hsk hlk)
  refine methS S C.X i1 i2 ho (by k_is) (by k_is) (by k_is) a.m3 ?_
  refine callWith_K0 (K := hd.heap_39 w.params) (S.X C.X) (by k_is) ?_
  refine wpAny_call ?_
  show codeAny _ _ (.call (.ref 99) ⟨[.ref σ.x], []⟩) _ _
  exact flush_bad C hroom hh hfr hsk FF S hW hWr sb k
set_option maxHeartbeats 1000000 in
theorem sns_bad {v1 v2 : Value} (C : Cx (hd.heap_39 w.params) B) (hroom : A.depth + 4 < recursionLimit) (hh : A.handled = none) (hfr : A.frames = some (envOf en esc L ea ecd :: outer)) (hek : esc.kind = .function) (FF : OutF B outer fm fc) (S : St B os G L m (fc ++ rest) s)
    (hW : Wr prog4 w 143 wc sp x da pl b W) (hWr : ∀ p ∈ W, p ∈ rest) (sb : Spoilt b rest) (hign : b.ign = 0)
    (k : ∀ e s', Fly B os G (envOf en esc L ea ecd :: outer) ((L, m) :: fm) rest e s' → R (.error (.ref e)) s') :
    codeAny (model prog4 w) A (.call (.ref 106) ⟨[.ref x, v1, v2], []⟩) R s := by
  obtain ⟨σ, hc, hi⟩ := id hW
  obtain ⟨⟨⟨am, nz, a⟩, es, hps⟩, e1, e2, e3, hda, hou, hde, hns, hnz⟩ := hi
  subst hc e1 e2 e3
  have ho := nz.o
  obtain ⟨ti, ai⟩ := a.ign
  have i1 := hWr _ (List.Mem.head _)
  have i2 := hWr _ (List.Mem.tail _ (List.Mem.head _))
  refine' call_fn (K := hd.heap_39 w.params) (binds := [((Str.ofString "self"), .ref σ.x), ((Str.ofString "prefix"), v1), ((Str.ofString "uri"), v2)]) S C.X C.lim ?ho ?hcd ?hroom ?hbind ?hloc (fun L' oL s fc_ S => ?_) ?hco ?hgen ?hk ?hcell
  case ho => k_is
  case hcd => k_is
  case hco => rfl
  case hgen => rfl
  case hk => rfl
  case hcell => decide
  case hroom => first | omega | (simp only [depth_deeper]; omega) | (simp only [depth_deeper, depth_in1]; omega)
  case hbind => exact BindsTo.of_eq rfl
  case hloc => exact locs rfl
  simp only [List.reverse_cons, List.reverse_nil, List.nil_append, List.cons_append] at S
  have up : ∀ p ∈ rest, p ∈ (L, oL) :: (fc ++ rest) := fun p hp => .tail _ (List.mem_append.mpr (.inr hp))
  refine wpAny_execs_cons (wpAny_If (wpAny_isTrue_value (Attribute_Name_ (ld S.F (by rfl) ?_))))
  refine attrS S C.X (up _ i1) (up _ i2) ho (by k_is) (by k_is) (by k_is) (by k_is) ai rfl (fun s S => ?_)
  refine PyProof.Rows.truthy_int (ifF (by rw [hign]; rfl) (wpAny_execs_nil ?_))
  exact wpAny_execs_cons (flushIf_bad (fc := (L, oL) :: fc) C (by first | omega | (simp only [depth_deeper]; omega)) hh (Around.frames_deeper hfr) (FF.cons fc_ hek) S hW hWr sb (by rfl) rfl rfl rfl (fun e s' F => leave_on hfr F (fun s' F => k e s' F)))
end
end Mine
end
section
open PySem PySem.W PySem.Calls PyProof.Rows
set_option Elab.async false
set_option maxRecDepth 100000
set_option linter.unusedVariables false
namespace Mine
local macro_rules | `(tactic| walk_at "mem") => `(tactic| (repeat (first | assumption | exact List.Mem.head _ | refine List.Mem.tail _ ?_)))
local macro_rules | `(tactic| walk_at "up") => `(tactic| (repeat (first | exact Up.head | refine Up.tail ?_)))
section
variable {w : World} {A : Around} {E : Value → Shared → Prop} {s : Shared} {R : Result → Shared → Prop} {B : Heap} {os : OsState} {G : Array GenState} {L : Addr} {m : Str → Option Value} {rest news W : List Cell} {wc sp : Bool} {x da pl : Addr} {b : Abs}

variable {outer : List Env} {fm : List FMap} {fc : List Cell} {en : Str} {esc : Scope} {ea : Addr} {ecd : Value} {l : List (Str × Tok)}
theorem escT_length {x : Str} (hx : x.length ≤ 1000) : (escT x).length ≤ 1000000 := by
  have l1 : (Str.ofString "&amp;").length ≤ 5 := by decide
  have l2 : (Str.ofString "&lt;").length ≤ 4 := by decide
  have l3 : (Str.ofString "&gt;").length ≤ 4 := by decide
  have l4 : (Str.ofString "&#xD;").length ≤ 5 := by decide
  have h1 := esc1_length (c := (Str.ofString "&")) hx l1
  have h2 := esc1_length (c := (Str.ofString "<")) h1 l2
  have h3 := esc1_length (c := (Str.ofString ">")) h2 l3
  have h4 := esc1_length (c := (Str.ofString "\r")) h3 l4
  exact Nat.le_trans h4 (by decide)
set_option maxHeartbeats 1000000 in
/-- a text handed to the writer's sink -/
theorem writeStmt {p1 p2 p3 p4 : Pos} {e : PySem.Expr} {qual : Str} {scope : Scope} {f : Addr} {cd : Value} {Q : Flow → Shared → Prop} (C : Cx (hd.heap_39 w.params) B) (S : St B os G L m (W ++ rest) s) (hW : Wr prog4 w 143 wc sp x da pl b W) (hout : b.out.length < 10000)
    (hm : m (Str.ofString "self") = some (.ref x)) (hsk : scope.kind = .function) (hlk : (envOf qual scope L f cd).kindOf (Str.ofString "self") = some .local) (hline : (p2.endLine == p3.line) = true)
    (he : starEach [e] (envOf qual scope L f cd) = (false, eval e (envOf qual scope L f cd)) :: starEach [] (envOf qual scope L f cd)) (hfew : methodCallForm 1 (backTo p3 (starEach [e] (envOf qual scope L f cd))) (backToKw p3 (keywordEach [] (envOf qual scope L f cd))) = true)
    (h : ∀ s, St B os G L m (W ++ rest) s → wpAny (model prog4 w) A (eval e (envOf qual scope L f cd)) (fun v s₁ => ∃ y t G', v = .str y t ∧ St B os G' L m (W ++ rest) s₁ ∧ ∀ W' s', Wr prog4 w 143 wc sp x da pl { b with out := b.out ++ [y] } W' → St B os G' L m (W' ++ rest) s' → Q .next s') E s) :
    wpAny (model prog4 w) A (exec (.Expr (.Call (.Attribute (.Name (Str.ofString "self") p1) (Str.ofString "_write") p2) [e] [] p3) p4) (envOf qual scope L f cd)) Q E s := by
  obtain ⟨σ, hc, hi⟩ := id hW
  obtain ⟨⟨⟨am, nz, a⟩, es, hps⟩, e1, e2, e3, hda, hou, hde, hns, hnz⟩ := hi
  subst hc e1 e2 e3
  have ho := nz.o
  refine wpAny_Expr_any ?_ (by show (scope.kind == .module && (scope.more.any _)) = false; rw [hsk]; rfl) (by rfl)
  refine methodCall_S rfl hfew hline (ld S.F hm (fun pl => ?_) hsk hlk)
  refine valM S C.X (List.Mem.head _) (List.Mem.tail _ (List.Mem.head _)) ho (by k_is) (by k_is) (by k_is) a.write rfl (fun s S => ?_)
  refine callWith_bmS (fs := #[.builtin "list.append", .ref σ.pl]) ?_ he
  refine spliced_more (wpAny_mono (h s S) ?_ fun _ _ z => z) he
  rintro v s₁ ⟨y, t, G', rfl, S, k⟩
  refine spliced_none ⟨S.get (List.Mem.tail _ (List.Mem.tail _ (List.Mem.tail _ (List.Mem.tail _ (List.Mem.tail _ (List.Mem.tail _ (List.Mem.tail _ (List.Mem.head _)))))))), ?_⟩
  refine bmCallL S (List.Mem.tail _ (List.Mem.tail _ (List.Mem.tail _ (List.Mem.tail _ (List.Mem.tail _ (List.Mem.tail _ (List.Mem.tail _ (List.Mem.head _)))))))) (Up.tail (Up.tail (Up.tail (Up.tail (Up.tail (Up.tail (Up.tail (Up.tail Up.head)))))))) (fun s S => ?_) (by rw [hou.length]; omega)
  exact k _ _ ⟨{ σ with out := σ.out ++ [.str y t], npl := σ.npl + 1 }, rfl, ⟨⟨⟨am, nz, a.same ⟨rfl, rfl, rfl, rfl, rfl, rfl⟩⟩, es, hps⟩, rfl, rfl, rfl, hda, hou.snoc y t, hde, hns, hnz⟩⟩ S
end
end Mine
end
section
open PySem PySem.W PySem.Calls PyProof.Rows
set_option Elab.async false
set_option maxRecDepth 100000
set_option linter.unusedVariables false
namespace Mine
local macro_rules | `(tactic| walk_at "mem") => `(tactic| (repeat (first | assumption | exact List.Mem.head _ | refine List.Mem.tail _ ?_)))
local macro_rules | `(tactic| walk_at "up") => `(tactic| (repeat (first | exact Up.head | refine Up.tail ?_)))
section
variable {w : World} {A : Around} {E : Value → Shared → Prop} {s : Shared} {R : Result → Shared → Prop} {B : Heap} {os : OsState} {G : Array GenState} {L : Addr} {m : Str → Option Value} {rest news W : List Cell} {wc sp : Bool} {x da pl : Addr} {b : Abs}

variable {outer : List Env} {fm : List FMap} {fc : List Cell} {en : Str} {esc : Scope} {ea : Addr} {ecd : Value} {l : List (Str × Tok)}

/-- the same, where a root was seen -/
theorem flushIf2 {p0 p1 p2 p3 p4 p5 p6 p7 p8 p9 : Pos} {qual : Str} {scope : Scope} {f : Addr} {cd : Value} {Q : Flow → Shared → Prop} (C : Cx (hd.heap_39 w.params) B) (hroom : A.depth + 3 < recursionLimit) (hh : A.handled = none) (S : St B os G L m (W ++ rest) s) (hW : Wr prog4 w 143 wc sp x da pl b W) (hdat : b.data = strValues l) (hseen : b.seen = true)
    (hln : l.length < 300) (hl : ∀ p ∈ l, p.1.length ≤ 3) (hout : b.out.length < 1000) (hm : m (Str.ofString "self") = some (.ref x)) (hsk : scope.kind = .function) (hlk : (envOf qual scope L f cd).kindOf (Str.ofString "self") = some .local) (hline : (p4.endLine == p5.line) = true)
    (k : ∀ W' s', Wr prog4 w 143 wc sp x da pl { b with data := [], out := b.out ++ flOut sp l } W' → St B os G L m (W' ++ rest) s' → Q .next s') :
    wpAny (model prog4 w) A (exec (.If (.BoolOp .And [.Attribute (.Name (Str.ofString "self") p8) (Str.ofString "_root_seen") p9, .Attribute (.Name (Str.ofString "self") p1) (Str.ofString "_data") p2] p0) [.Expr (.Call (.Attribute (.Name (Str.ofString "self") p3) (Str.ofString "_flush") p4) [] [] p5) p6] [] p7) (envOf qual scope L f cd)) Q E s := by
  obtain ⟨σ, hc, hi⟩ := id hW
  obtain ⟨⟨⟨am, nz, a⟩, es, hps⟩, e1, e2, e3, hda, hou, hde, hns, hnz⟩ := hi
  subst e1 e2 e3
  have ho := nz.o
  rw [hc] at S
  refine wpAny_If (wpAny_isTrue_BoolOp (wpAny_allTrue_And_cons (wpAny_isTrue_value (Attribute_Name_ (ld S.F hm ?_ hsk hlk)))))
  refine attrS S C.X (List.Mem.head _) (List.Mem.tail _ (List.Mem.head _)) ho (by k_is) (by k_is) (by k_is) (by k_is) a.seen rfl (fun s S => ?_)
  rw [hseen]
  refine wpAny_truthy_bool (ifT rfl (wpAny_allTrue_And_cons (wpAny_isTrue_value (Attribute_Name_ (ld S.F hm ?_ hsk hlk)))))
  refine attrS S C.X (List.Mem.head _) (List.Mem.tail _ (List.Mem.head _)) ho (by k_is) (by k_is) (by k_is) (by k_is) a.data rfl (fun s S => ?_)
  refine truthy_listS S (List.Mem.tail _ (List.Mem.tail _ (List.Mem.head _))) (by rw [hda, hdat]; simp [strValues]; omega) (fun s S => ?_)
  rw [hda, hdat]
  cases l with
  | nil =>
    refine ifF rfl (ifF rfl (wpAny_execs_nil ?_))
    refine k _ _ ⟨σ, rfl, ⟨⟨⟨am, nz, a⟩, es, hps⟩, rfl, rfl, rfl, hda.trans hdat, ?_, hde, hns, hnz⟩⟩ S
    show OutIs σ.out (b.out ++ flOut sp [])
    rw [flOut_nil, List.append_nil]; exact hou
  | cons q r =>
    refine ifT rfl (wpAny_allTrue_And_nil (ifT rfl ?_))
    refine wpAny_execs_cons (wpAny_Expr_any ?_ (by show (scope.kind == .module && (scope.more.any _)) = false; rw [hsk]; rfl) (by rfl))
    refine methodCall_S rfl rfl hline (ld S.F hm (fun pl => ?_) hsk hlk)
    refine methS S C.X (List.Mem.head _) (List.Mem.tail _ (List.Mem.head _)) ho (by k_is) (by k_is) (by k_is) a.m3 ?_
    refine callWith_K0 (K := hd.heap_39 w.params) (S.X C.X) (by k_is) ?_
    refine wpAny_call ?_
    show codeAny _ _ (.call (.ref 99) ⟨[.ref σ.x], []⟩) _ _
    refine flush_good C hroom hh S ⟨σ, rfl, ⟨⟨⟨am, nz, a⟩, es, hps⟩, rfl, rfl, rfl, hda, hou, hde, hns, hnz⟩⟩ hdat hseen hln hl hout (fun W' s' hW' S' => ?_)
    exact wpAny_execs_nil (k W' s' hW' S')
theorem flushIf2_bad {p0 p1 p2 p3 p4 p5 p6 p7 p8 p9 : Pos} {qual : Str} {scope : Scope} {f : Addr} {cd : Value} {Q : Flow → Shared → Prop} (C : Cx (hd.heap_39 w.params) B) (hroom : A.depth + 2 < recursionLimit) (hh : A.handled = none) (hfr : A.frames = some (envOf qual scope L f cd :: outer)) (FF : OutF B outer fm fc) (S : St B os G L m (fc ++ rest) s)
    (hW : Wr prog4 w 143 wc sp x da pl b W) (hWr : ∀ p ∈ W, p ∈ rest) (sb : Spoilt b rest) (hseen : b.seen = true) (hm : m (Str.ofString "self") = some (.ref x)) (hsk : scope.kind = .function) (hlk : (envOf qual scope L f cd).kindOf (Str.ofString "self") = some .local) (hline : (p4.endLine == p5.line) = true)
    (k : ∀ e s', Fly B os G (envOf qual scope L f cd :: outer) ((L, m) :: fm) rest e s' → E (.ref e) s') :
    wpAny (model prog4 w) A (exec (.If (.BoolOp .And [.Attribute (.Name (Str.ofString "self") p8) (Str.ofString "_root_seen") p9, .Attribute (.Name (Str.ofString "self") p1) (Str.ofString "_data") p2] p0) [.Expr (.Call (.Attribute (.Name (Str.ofString "self") p3) (Str.ofString "_flush") p4) [] [] p5) p6] [] p7) (envOf qual scope L f cd)) Q E s := by
  obtain ⟨σ, hc, hi⟩ := id hW
  obtain ⟨⟨⟨am, nz, a⟩, es, hps⟩, e1, e2, e3, hda, hou, hde, hns, hnz⟩ := hi
  subst hc e1 e2 e3
  have ho := nz.o
  have up : ∀ p ∈ rest, p ∈ fc ++ rest := fun p hp => List.mem_append.mpr (.inr hp)
  have i1 := up _ (hWr _ (List.Mem.head _))
  have i2 := up _ (hWr _ (List.Mem.tail _ (List.Mem.head _)))
  have i3 := up _ (hWr _ (List.Mem.tail _ (List.Mem.tail _ (List.Mem.head _))))
  refine wpAny_If (wpAny_isTrue_BoolOp (wpAny_allTrue_And_cons (wpAny_isTrue_value (Attribute_Name_ (ld S.F hm ?_ hsk hlk)))))
  refine attrS S C.X i1 i2 ho (by k_is) (by k_is) (by k_is) (by k_is) a.seen rfl (fun s S => ?_)
  rw [hseen]
  refine wpAny_truthy_bool (ifT rfl (wpAny_allTrue_And_cons (wpAny_isTrue_value (Attribute_Name_ (ld S.F hm ?_ hsk hlk)))))
  refine attrS S C.X i1 i2 ho (by k_is) (by k_is) (by k_is) (by k_is) a.data rfl (fun s S => ?_)
  refine truthy_listS S i3 (by rw [hda]; exact Nat.lt_trans sb.sz (by decide)) (fun s S => ?_)
  refine ifT (by
    obtain ⟨v, hv, _⟩ := sb.bad
    rw [← hda] at hv
    cases hq : σ.data with
    | nil => rw [hq] at hv; cases hv
    | cons _ _ => rfl) (wpAny_allTrue_And_nil (ifT rfl ?_))
  refine wpAny_execs_cons (wpAny_Expr_any ?_ (by show (scope.kind == .module && (scope.more.any _)) = false; rw [hsk]; rfl) (by rfl))
  refine methodCall_S rfl rfl hline (ld S.F hm (fun pl => ?_) hsk hlk)
  refine methS S C.X i1 i2 ho (by k_is) (by k_is) (by k_is) a.m3 ?_
  refine callWith_K0 (K := hd.heap_39 w.params) (S.X C.X) (by k_is) ?_
  refine wpAny_call ?_
  show codeAny _ _ (.call (.ref 99) ⟨[.ref σ.x], []⟩) _ _
  exact flush_bad C hroom hh hfr hsk FF S hW hWr sb k
/-- nothing is written behind a comment once a root was seen -/
theorem unseenIf {p1 p2 p3 p4 : Pos} {bd : List Stmt} {qual : Str} {scope : Scope} {f : Addr} {cd : Value} {Q : Flow → Shared → Prop} (C : Cx (hd.heap_39 w.params) B) (S : St B os G L m (W ++ rest) s) (hW : Wr prog4 w 143 wc sp x da pl b W) (hseen : b.seen = true) (hm : m (Str.ofString "self") = some (.ref x)) (hsk : scope.kind = .function) (hlk : (envOf qual scope L f cd).kindOf (Str.ofString "self") = some .local)
    (k : ∀ s', St B os G L m (W ++ rest) s' → Q .next s') : wpAny (model prog4 w) A (exec (.If (.UnaryOp .Not (.Attribute (.Name (Str.ofString "self") p1) (Str.ofString "_root_seen") p2) p3) bd [] p4) (envOf qual scope L f cd)) Q E s := by
  obtain ⟨σ, hc, hi⟩ := id hW
  obtain ⟨⟨⟨am, nz, a⟩, es, hps⟩, e1, e2, e3, hda, hou, hde, hns, hnz⟩ := hi
  subst hc e1 e2 e3
  have ho := nz.o
  refine wpAny_If (wpAny_isTrue_Not (wpAny_isTrue_value (Attribute_Name_ (ld S.F hm ?_ hsk hlk))))
  refine attrS S C.X (List.Mem.head _) (List.Mem.tail _ (List.Mem.head _)) ho (by k_is) (by k_is) (by k_is) (by k_is) a.seen rfl (fun s S => ?_)
  rw [hseen]
  exact wpAny_truthy_bool (ifF rfl (wpAny_execs_nil (k _ S)))
def comT (x : Str) : Str := Str.empty ++ (Str.ofString "<!--") ++ escT x ++ (Str.ofString "-->")
set_option maxHeartbeats 2000000 in
theorem com_skip {v : Value} (C : Cx (hd.heap_39 w.params) B) (hroom : A.depth + 1 < recursionLimit) (S : St B os G L m (W ++ rest) s) (hW : Wr prog4 w 143 wc sp x da pl b W) (hign : wc = false ∨ b.ign ≠ 0)
    (k : ∀ s', St B os G L m (W ++ rest) s' → R (.ok (.ret .none)) s') :
    codeAny (model prog4 w) A (.call (.ref 133) ⟨[.ref x, v], []⟩) R s := by
  obtain ⟨σ, rfl, ⟨⟨⟨am, nz, a⟩, es, hps⟩, rfl, rfl, rfl, hda, hou, hde, hns, hnz⟩⟩ := hW
  have ho := nz.o
  obtain ⟨ti, ai⟩ := a.ign
  refine' call_fn (K := hd.heap_39 w.params) (binds := [((Str.ofString "self"), .ref σ.x), ((Str.ofString "text"), v)]) S C.X C.lim ?ho ?hcd ?hroom ?hbind ?hloc (fun L' oL s fc_ S => ?_) ?hco ?hgen ?hk ?hcell
  case ho => k_is
  case hcd => k_is
  case hco => rfl
  case hgen => rfl
  case hk => rfl
  case hcell => decide
  case hroom => first | omega | (simp only [depth_deeper]; omega) | (simp only [depth_deeper, depth_in1]; omega)
  case hbind => exact BindsTo.of_eq rfl
  case hloc => exact locs rfl
  simp only [List.reverse_cons, List.reverse_nil, List.nil_append, List.cons_append] at S
  refine wpAny_execs_cons (wpAny_If (wpAny_isTrue_Not (wpAny_isTrue_value (Attribute_Name_ (ld S.F (by rfl) ?_)))))
  refine attrS S C.X (by walk_at "mem") (by walk_at "mem") ho (by k_is) (by k_is) (by k_is) (by k_is) a.wc rfl (fun s S => ?_)
  refine wpAny_truthy_bool ?_
  cases wc with
  | false => exact ifT rfl (wpAny_execs_cons (wpAny_Return_none (k _ (S.back fc_))))
  | true =>
    refine ifF rfl (wpAny_execs_nil ?_)
    refine wpAny_execs_cons (wpAny_If (wpAny_isTrue_value (Attribute_Name_ (ld S.F (by rfl) ?_))))
    refine attrS S C.X (by walk_at "mem") (by walk_at "mem") ho (by k_is) (by k_is) (by k_is) (by k_is) ai rfl (fun s S => ?_)
    refine PyProof.Rows.truthy_int (ifT (by have := hign.resolve_left (by decide); simp; omega) ?_)
    exact wpAny_execs_cons (wpAny_Return_none (k _ (S.back fc_)))
set_option maxHeartbeats 2000000 in
theorem com_good {y : Str} {t : Tok} (C : Cx (hd.heap_39 w.params) B) (hroom : A.depth + 4 < recursionLimit) (hh : A.handled = none) (S : St B os G L m (W ++ rest) s) (hW : Wr prog4 w 143 true sp x da pl b W) (hign : b.ign = 0) (hdone : b.done = false) (hdat : b.data = strValues l) (hseen : b.seen = true)
    (hln : l.length < 300) (hl : ∀ p ∈ l, p.1.length ≤ 3) (hout : b.out.length < 900) (hy : y.length ≤ 1000)
    (k : ∀ W' s', Wr prog4 w 143 true sp x da pl { b with data := [], out := b.out ++ flOut sp l ++ [comT y] } W' → St B os G L m (W' ++ rest) s' → R (.ok (.ret .none)) s') :
    codeAny (model prog4 w) A (.call (.ref 133) ⟨[.ref x, .str y t], []⟩) R s := by
  obtain ⟨σ, hc, hi⟩ := id hW
  obtain ⟨⟨⟨am, nz, a⟩, es, hps⟩, e1, e2, e3, hda, hou, hde, hns, hnz⟩ := hi
  have ho := nz.o
  obtain ⟨ti, ai⟩ := a.ign
  subst e1 e2 e3
  refine' call_fn (K := hd.heap_39 w.params) (binds := [((Str.ofString "self"), .ref σ.x), ((Str.ofString "text"), .str y t)]) S C.X C.lim ?ho ?hcd ?hroom ?hbind ?hloc (fun L' oL s fc_ S => ?_) ?hco ?hgen ?hk ?hcell
  case ho => k_is
  case hcd => k_is
  case hco => rfl
  case hgen => rfl
  case hk => rfl
  case hcell => decide
  case hroom => first | omega | (simp only [depth_deeper]; omega) | (simp only [depth_deeper, depth_in1]; omega)
  case hbind => exact BindsTo.of_eq rfl
  case hloc => exact locs rfl
  simp only [List.reverse_cons, List.reverse_nil, List.nil_append, List.cons_append] at S
  rw [hc] at S
  refine wpAny_execs_cons (wpAny_If (wpAny_isTrue_Not (wpAny_isTrue_value (Attribute_Name_ (ld S.F (by rfl) ?_)))))
  refine attrS S C.X (by walk_at "mem") (by walk_at "mem") ho (by k_is) (by k_is) (by k_is) (by k_is) a.wc rfl (fun s S => ?_)
  refine wpAny_truthy_bool (ifF rfl (wpAny_execs_nil ?_))
  refine wpAny_execs_cons (wpAny_If (wpAny_isTrue_value (Attribute_Name_ (ld S.F (by rfl) ?_))))
  refine attrS S C.X (by walk_at "mem") (by walk_at "mem") ho (by k_is) (by k_is) (by k_is) (by k_is) ai rfl (fun s S => ?_)
  refine PyProof.Rows.truthy_int (ifF (by rw [hign]; rfl) (wpAny_execs_nil ?_))
  refine wpAny_execs_cons (wpAny_If (wpAny_isTrue_value (Attribute_Name_ (ld S.F (by rfl) ?_))))
  refine attrS S C.X (by walk_at "mem") (by walk_at "mem") ho (by k_is) (by k_is) (by k_is) (by k_is) a.done rfl (fun s S => ?_)
  rw [hdone]
  refine wpAny_truthy_bool (ifF rfl ?_)
  rw [← hc] at S
  refine wpAny_execs_cons (flushIf2 (rest := (L, oL) :: rest) C (by first | omega | (simp only [depth_deeper]; omega)) hh S.sink hW hdat hseen hln hl (by omega) (by rfl) rfl rfl rfl (fun W' s hW' S => wpAny_execs_nil ?_))
  have hfl : (flOut sp l).length ≤ 1 := by unfold flOut; split <;> simp
  refine wpAny_execs_cons (writeStmt C S hW' (by simp only [List.length_append]; omega) (by rfl) rfl rfl rfl rfl rfl (fun s S => ?_))
  refine JoinedStr_many (joinParts_cons (wpAny_Constant_str ⟨by decide, joinParts_cons (FormattedValue_plain ?_)⟩))
  have S := S.tk (t := s.toks + 1)
  refine wpAny_Call_ofName (globS C S (by k_is) ?_)
  refine callWith_K (K := hd.heap_39 w.params) C.X (by k_is) ?_
  refine spliced_more (ld S.F (by rfl) ?_)
  refine spliced_none ⟨S.X C.X, wpAny_call ?_⟩
  refine escape_spec hy C (by first | omega | (simp only [depth_deeper]; omega)) S (fun t4 s S => ?_)
  have hyl := escT_length hy
  have z0 : Str.empty.length = 0 := by decide
  have z1 : (Str.ofString "<!--").length = 4 := by decide
  have z2 : (Str.ofString "-->").length = 3 := by decide
  refine formatField_str (fun t5 tk => ⟨by rw [PySem.sizeLine_eq, strLen_append, strLen_append]; omega, joinParts_cons (wpAny_Constant_str ⟨by rw [PySem.sizeLine_eq, strLen_append, strLen_append, strLen_append]; omega, joinParts_nil ?_ (by rw [PySem.sizeLine_eq, strLen_append, strLen_append, strLen_append]; omega)⟩)⟩) (by rw [PySem.sizeLine_eq]; omega)
  refine ⟨_, _, _, rfl, S.tk.tk.tk, fun W'' s hW'' S => ?_⟩
  refine wpAny_execs_cons (unseenIf C S hW'' hseen (by rfl) rfl rfl ?_)
  intro s S
  refine wpAny_execs_nil ?_
  exact k _ _ hW'' (S.rise.back fc_)
set_option maxHeartbeats 2000000 in
theorem com_done {y : Str} {t : Tok} (C : Cx (hd.heap_39 w.params) B) (hroom : A.depth + 4 < recursionLimit) (hh : A.handled = none) (S : St B os G L m (W ++ rest) s) (hW : Wr prog4 w 143 true sp x da pl b W) (hign : b.ign = 0) (hdone : b.done = true) (hseen : b.seen = true)
    (hout : b.out.length < 900) (hy : y.length ≤ 1000)
    (k : ∀ W' s', Wr prog4 w 143 true sp x da pl { b with out := b.out ++ [(Str.ofString "\n")] ++ [comT y] } W' → St B os G L m (W' ++ rest) s' → R (.ok (.ret .none)) s') :
    codeAny (model prog4 w) A (.call (.ref 133) ⟨[.ref x, .str y t], []⟩) R s := by
  obtain ⟨σ, hc, hi⟩ := id hW
  obtain ⟨⟨⟨am, nz, a⟩, es, hps⟩, e1, e2, e3, hda, hou, hde, hns, hnz⟩ := hi
  have ho := nz.o
  obtain ⟨ti, ai⟩ := a.ign
  subst e1 e2 e3
  refine' call_fn (K := hd.heap_39 w.params) (binds := [((Str.ofString "self"), .ref σ.x), ((Str.ofString "text"), .str y t)]) S C.X C.lim ?ho ?hcd ?hroom ?hbind ?hloc (fun L' oL s fc_ S => ?_) ?hco ?hgen ?hk ?hcell
  case ho => k_is
  case hcd => k_is
  case hco => rfl
  case hgen => rfl
  case hk => rfl
  case hcell => decide
  case hroom => first | omega | (simp only [depth_deeper]; omega) | (simp only [depth_deeper, depth_in1]; omega)
  case hbind => exact BindsTo.of_eq rfl
  case hloc => exact locs rfl
  simp only [List.reverse_cons, List.reverse_nil, List.nil_append, List.cons_append] at S
  rw [hc] at S
  refine wpAny_execs_cons (wpAny_If (wpAny_isTrue_Not (wpAny_isTrue_value (Attribute_Name_ (ld S.F (by rfl) ?_)))))
  refine attrS S C.X (by walk_at "mem") (by walk_at "mem") ho (by k_is) (by k_is) (by k_is) (by k_is) a.wc rfl (fun s S => ?_)
  refine wpAny_truthy_bool (ifF rfl (wpAny_execs_nil ?_))
  refine wpAny_execs_cons (wpAny_If (wpAny_isTrue_value (Attribute_Name_ (ld S.F (by rfl) ?_))))
  refine attrS S C.X (by walk_at "mem") (by walk_at "mem") ho (by k_is) (by k_is) (by k_is) (by k_is) ai rfl (fun s S => ?_)
  refine PyProof.Rows.truthy_int (ifF (by rw [hign]; rfl) (wpAny_execs_nil ?_))
  refine wpAny_execs_cons (wpAny_If (wpAny_isTrue_value (Attribute_Name_ (ld S.F (by rfl) ?_))))
  refine attrS S C.X (by walk_at "mem") (by walk_at "mem") ho (by k_is) (by k_is) (by k_is) (by k_is) a.done rfl (fun s S => ?_)
  rw [hdone]
  refine wpAny_truthy_bool (ifT rfl ?_)
  rw [← hc] at S
  refine wpAny_execs_cons (writeStmt C S.sink hW (by omega) (by rfl) rfl rfl rfl rfl rfl (fun s S => wpAny_Constant_str ⟨_, _, _, rfl, S.tk, fun W' s hW' S => wpAny_execs_nil ?_⟩))
  refine wpAny_execs_cons (writeStmt C S hW' (by simp only [List.length_append, List.length_cons, List.length_nil]; omega) (by rfl) rfl rfl rfl rfl rfl (fun s S => ?_))
  refine JoinedStr_many (joinParts_cons (wpAny_Constant_str ⟨by decide, joinParts_cons (FormattedValue_plain ?_)⟩))
  have S := S.tk (t := s.toks + 1)
  refine wpAny_Call_ofName (globS C S (by k_is) ?_)
  refine callWith_K (K := hd.heap_39 w.params) C.X (by k_is) ?_
  refine spliced_more (ld S.F (by rfl) ?_)
  refine spliced_none ⟨S.X C.X, wpAny_call ?_⟩
  refine escape_spec hy C (by first | omega | (simp only [depth_deeper]; omega)) S (fun t4 s S => ?_)
  have hyl := escT_length hy
  have z0 : Str.empty.length = 0 := by decide
  have z1 : (Str.ofString "<!--").length = 4 := by decide
  have z2 : (Str.ofString "-->").length = 3 := by decide
  refine formatField_str (fun t5 tk => ⟨by rw [PySem.sizeLine_eq, strLen_append, strLen_append]; omega, joinParts_cons (wpAny_Constant_str ⟨by rw [PySem.sizeLine_eq, strLen_append, strLen_append, strLen_append]; omega, joinParts_nil ?_ (by rw [PySem.sizeLine_eq, strLen_append, strLen_append, strLen_append]; omega)⟩)⟩) (by rw [PySem.sizeLine_eq]; omega)
  refine ⟨_, _, _, rfl, S.tk.tk.tk, fun W'' s hW'' S => ?_⟩
  refine wpAny_execs_cons (unseenIf C S hW'' hseen (by rfl) rfl rfl ?_)
  intro s S
  refine wpAny_execs_nil ?_
  exact k _ _ hW'' (S.rise.back fc_)
set_option maxHeartbeats 2000000 in
theorem com_bad {v : Value} (C : Cx (hd.heap_39 w.params) B) (hroom : A.depth + 4 < recursionLimit) (hh : A.handled = none) (hfr : A.frames = some (envOf en esc L ea ecd :: outer)) (hek : esc.kind = .function) (FF : OutF B outer fm fc) (S : St B os G L m (fc ++ rest) s)
    (hW : Wr prog4 w 143 true sp x da pl b W) (hWr : ∀ p ∈ W, p ∈ rest) (sb : Spoilt b rest) (hign : b.ign = 0) (hdone : b.done = false) (hseen : b.seen = true)
    (k : ∀ e s', Fly B os G (envOf en esc L ea ecd :: outer) ((L, m) :: fm) rest e s' → R (.error (.ref e)) s') :
    codeAny (model prog4 w) A (.call (.ref 133) ⟨[.ref x, v], []⟩) R s := by
  obtain ⟨σ, hc, hi⟩ := id hW
  obtain ⟨⟨⟨am, nz, a⟩, es, hps⟩, e1, e2, e3, hda, hou, hde, hns, hnz⟩ := hi
  subst hc e1 e2 e3
  have ho := nz.o
  obtain ⟨ti, ai⟩ := a.ign
  have i1 := hWr _ (List.Mem.head _)
  have i2 := hWr _ (List.Mem.tail _ (List.Mem.head _))
  refine' call_fn (K := hd.heap_39 w.params) (binds := [((Str.ofString "self"), .ref σ.x), ((Str.ofString "text"), v)]) S C.X C.lim ?ho ?hcd ?hroom ?hbind ?hloc (fun L' oL s fc_ S => ?_) ?hco ?hgen ?hk ?hcell
  case ho => k_is
  case hcd => k_is
  case hco => rfl
  case hgen => rfl
  case hk => rfl
  case hcell => decide
  case hroom => first | omega | (simp only [depth_deeper]; omega) | (simp only [depth_deeper, depth_in1]; omega)
  case hbind => exact BindsTo.of_eq rfl
  case hloc => exact locs rfl
  simp only [List.reverse_cons, List.reverse_nil, List.nil_append, List.cons_append] at S
  have up : ∀ p ∈ rest, p ∈ (L, oL) :: (fc ++ rest) := fun p hp => .tail _ (List.mem_append.mpr (.inr hp))
  refine wpAny_execs_cons (wpAny_If (wpAny_isTrue_Not (wpAny_isTrue_value (Attribute_Name_ (ld S.F (by rfl) ?_)))))
  refine attrS S C.X (up _ i1) (up _ i2) ho (by k_is) (by k_is) (by k_is) (by k_is) a.wc rfl (fun s S => ?_)
  refine wpAny_truthy_bool (ifF rfl (wpAny_execs_nil ?_))
  refine wpAny_execs_cons (wpAny_If (wpAny_isTrue_value (Attribute_Name_ (ld S.F (by rfl) ?_))))
  refine attrS S C.X (up _ i1) (up _ i2) ho (by k_is) (by k_is) (by k_is) (by k_is) ai rfl (fun s S => ?_)
  refine PyProof.Rows.truthy_int (ifF (by rw [hign]; rfl) (wpAny_execs_nil ?_))
  refine wpAny_execs_cons (wpAny_If (wpAny_isTrue_value (Attribute_Name_ (ld S.F (by rfl) ?_))))
  refine attrS S C.X (up _ i1) (up _ i2) ho (by k_is) (by k_is) (by k_is) (by k_is) a.done rfl (fun s S => ?_)
  rw [hdone]
  refine wpAny_truthy_bool (ifF rfl ?_)
  exact wpAny_execs_cons (flushIf2_bad (fc := (L, oL) :: fc) C (by first | omega | (simp only [depth_deeper]; omega)) hh (Around.frames_deeper hfr) (FF.cons fc_ hek) S hW hWr sb hseen (by rfl) rfl rfl rfl (fun e s' F => leave_on hfr F (fun s' F => k e s' F)))
end
end Mine
end
section
open PySem PySem.W PySem.Calls PyProof.Rows
set_option Elab.async false
set_option maxRecDepth 100000
set_option linter.unusedVariables false
namespace Mine
local macro_rules | `(tactic| walk_at "mem") => `(tactic| (repeat (first | assumption | exact List.Mem.head _ | refine List.Mem.tail _ ?_)))
local macro_rules | `(tactic| walk_at "up") => `(tactic| (repeat (first | exact Up.head | refine Up.tail ?_)))
section
variable {w : World} {A : Around} {E : Value → Shared → Prop} {s : Shared} {R : Result → Shared → Prop} {B : Heap} {os : OsState} {G : Array GenState} {L : Addr} {m : Str → Option Value} {rest news W : List Cell} {wc sp : Bool} {x da pl : Addr} {b : Abs}

variable {outer : List Env} {fm : List FMap} {fc : List Cell} {en : Str} {esc : Scope} {ea : Addr} {ecd : Value} {l : List (Str × Tok)}
def piT (tg x : Str) : Str := Str.empty ++ (Str.ofString "<?") ++ tg ++ (Str.ofString " ") ++ escT x ++ (Str.ofString "?>")
set_option maxHeartbeats 2000000 in
theorem pi_skip {v1 v2 : Value} (C : Cx (hd.heap_39 w.params) B) (hroom : A.depth + 1 < recursionLimit) (S : St B os G L m (W ++ rest) s) (hW : Wr prog4 w 143 wc sp x da pl b W) (hign : b.ign ≠ 0)
    (k : ∀ s', St B os G L m (W ++ rest) s' → R (.ok (.ret .none)) s') :
    codeAny (model prog4 w) A (.call (.ref 140) ⟨[.ref x, v1, v2], []⟩) R s := by
  obtain ⟨σ, rfl, ⟨⟨⟨am, nz, a⟩, es, hps⟩, rfl, rfl, rfl, hda, hou, hde, hns, hnz⟩⟩ := hW
  have ho := nz.o
  obtain ⟨ti, ai⟩ := a.ign
  refine' call_fn (K := hd.heap_39 w.params) (binds := [((Str.ofString "self"), .ref σ.x), ((Str.ofString "target"), v1), ((Str.ofString "data"), v2)]) S C.X C.lim ?ho ?hcd ?hroom ?hbind ?hloc (fun L' oL s fc_ S => ?_) ?hco ?hgen ?hk ?hcell
  case ho => k_is
  case hcd => k_is
  case hco => rfl
  case hgen => rfl
  case hk => rfl
  case hcell => decide
  case hroom => first | omega | (simp only [depth_deeper]; omega) | (simp only [depth_deeper, depth_in1]; omega)
  case hbind => exact BindsTo.of_eq rfl
  case hloc => exact locs rfl
  simp only [List.reverse_cons, List.reverse_nil, List.nil_append, List.cons_append] at S
  refine wpAny_execs_cons (wpAny_If (wpAny_isTrue_value (Attribute_Name_ (ld S.F (by rfl) ?_))))
  refine attrS S C.X (by walk_at "mem") (by walk_at "mem") ho (by k_is) (by k_is) (by k_is) (by k_is) ai rfl (fun s S => ?_)
  refine PyProof.Rows.truthy_int (ifT (by simp; omega) ?_)
  exact wpAny_execs_cons (wpAny_Return_none (k _ (S.back fc_)))
set_option maxHeartbeats 2000000 in
theorem pi_good {tg y : Str} {t0 t : Tok} (C : Cx (hd.heap_39 w.params) B) (hroom : A.depth + 4 < recursionLimit) (hh : A.handled = none) (S : St B os G L m (W ++ rest) s) (hW : Wr prog4 w 143 wc sp x da pl b W) (hign : b.ign = 0) (hdone : b.done = false) (hdat : b.data = strValues l) (hseen : b.seen = true)
    (hln : l.length < 300) (hl : ∀ p ∈ l, p.1.length ≤ 3) (hout : b.out.length < 900) (htg : tg.length ≤ 1000) (hy : y.length ≤ 1000) (hne : y ≠ (Str.ofString ""))
    (k : ∀ W' s', Wr prog4 w 143 wc sp x da pl { b with data := [], out := b.out ++ flOut sp l ++ [piT tg y] } W' → St B os G L m (W' ++ rest) s' → R (.ok (.ret .none)) s') :
    codeAny (model prog4 w) A (.call (.ref 140) ⟨[.ref x, .str tg t0, .str y t], []⟩) R s := by
  obtain ⟨σ, hc, hi⟩ := id hW
  obtain ⟨⟨⟨am, nz, a⟩, es, hps⟩, e1, e2, e3, hda, hou, hde, hns, hnz⟩ := hi
  have ho := nz.o
  obtain ⟨ti, ai⟩ := a.ign
  subst e1 e2 e3
  refine' call_fn (K := hd.heap_39 w.params) (binds := [((Str.ofString "self"), .ref σ.x), ((Str.ofString "target"), .str tg t0), ((Str.ofString "data"), .str y t)]) S C.X C.lim ?ho ?hcd ?hroom ?hbind ?hloc (fun L' oL s fc_ S => ?_) ?hco ?hgen ?hk ?hcell
  case ho => k_is
  case hcd => k_is
  case hco => rfl
  case hgen => rfl
  case hk => rfl
  case hcell => decide
  case hroom => first | omega | (simp only [depth_deeper]; omega) | (simp only [depth_deeper, depth_in1]; omega)
  case hbind => exact BindsTo.of_eq rfl
  case hloc => exact locs rfl
  simp only [List.reverse_cons, List.reverse_nil, List.nil_append, List.cons_append] at S
  rw [hc] at S
  refine wpAny_execs_cons (wpAny_If (wpAny_isTrue_value (Attribute_Name_ (ld S.F (by rfl) ?_))))
  refine attrS S C.X (by walk_at "mem") (by walk_at "mem") ho (by k_is) (by k_is) (by k_is) (by k_is) ai rfl (fun s S => ?_)
  refine PyProof.Rows.truthy_int (ifF (by rw [hign]; rfl) (wpAny_execs_nil ?_))
  refine wpAny_execs_cons (wpAny_If (wpAny_isTrue_value (Attribute_Name_ (ld S.F (by rfl) ?_))))
  refine attrS S C.X (by walk_at "mem") (by walk_at "mem") ho (by k_is) (by k_is) (by k_is) (by k_is) a.done rfl (fun s S => ?_)
  rw [hdone]
  refine wpAny_truthy_bool (ifF rfl ?_)
  rw [← hc] at S
  refine wpAny_execs_cons (flushIf2 (rest := (L, oL) :: rest) C (by first | omega | (simp only [depth_deeper]; omega)) hh S.sink hW hdat hseen hln hl (by omega) (by rfl) rfl rfl rfl (fun W' s hW' S => wpAny_execs_nil ?_))
  have hfl : (flOut sp l).length ≤ 1 := by unfold flOut; split <;> simp
  refine wpAny_execs_cons (writeStmt C S hW' (by simp only [List.length_append]; omega) (by rfl) rfl rfl rfl rfl rfl (fun s S => ?_))
  refine wpAny_IfExp (wpAny_isTrue_value (ld S.F (by rfl) ?_))
  refine PySem.P.truthy_str (by omega) ?_
  rw [str_len0]
  refine ifT (by simp [hne]) ?_
  have S := S.tk (t := s.toks + 1 + 1)
  refine JoinedStr_many (joinParts_cons (wpAny_Constant_str ⟨by decide, joinParts_cons (FormattedValue_plain (ld S.F (by rfl) ?_))⟩))
  have z0 : Str.empty.length = 0 := by decide
  have z1 : (Str.ofString "<?").length = 2 := by decide
  have z2 : (Str.ofString " ").length = 1 := by decide
  have z3 : (Str.ofString "?>").length = 2 := by decide
  refine formatField_str (fun t5 tk => ⟨by rw [PySem.sizeLine_eq, strLen_append, strLen_append]; omega, joinParts_cons (wpAny_Constant_str ⟨by rw [PySem.sizeLine_eq, strLen_append, strLen_append, strLen_append]; omega, joinParts_cons (FormattedValue_plain ?_)⟩)⟩) (by rw [PySem.sizeLine_eq]; omega)
  have S := S.tk (t := tk + 1)
  refine wpAny_Call_ofName (globS C S (by k_is) ?_)
  refine callWith_K (K := hd.heap_39 w.params) C.X (by k_is) ?_
  refine spliced_more (ld S.F (by rfl) ?_)
  refine spliced_none ⟨S.X C.X, wpAny_call ?_⟩
  refine escape_spec hy C (by first | omega | (simp only [depth_deeper]; omega)) S (fun t4 s S => ?_)
  have hyl := escT_length hy
  refine formatField_str (fun t5 tk => ⟨by rw [PySem.sizeLine_eq, strLen_append, strLen_append, strLen_append, strLen_append]; omega, joinParts_cons (wpAny_Constant_str ⟨by rw [PySem.sizeLine_eq, strLen_append, strLen_append, strLen_append, strLen_append, strLen_append]; omega, joinParts_nil ?_ (by rw [PySem.sizeLine_eq, strLen_append, strLen_append, strLen_append, strLen_append, strLen_append]; omega)⟩)⟩) (by rw [PySem.sizeLine_eq]; omega)
  refine ⟨_, _, _, rfl, S.tk.tk.tk, fun W'' s hW'' S => ?_⟩
  refine wpAny_execs_cons (unseenIf C S hW'' hseen (by rfl) rfl rfl ?_)
  intro s S
  refine wpAny_execs_nil ?_
  exact k _ _ hW'' (S.rise.back fc_)
set_option maxHeartbeats 2000000 in
theorem pi_done {tg y : Str} {t0 t : Tok} (C : Cx (hd.heap_39 w.params) B) (hroom : A.depth + 4 < recursionLimit) (hh : A.handled = none) (S : St B os G L m (W ++ rest) s) (hW : Wr prog4 w 143 wc sp x da pl b W) (hign : b.ign = 0) (hdone : b.done = true) (hseen : b.seen = true)
    (hout : b.out.length < 900) (htg : tg.length ≤ 1000) (hy : y.length ≤ 1000) (hne : y ≠ (Str.ofString ""))
    (k : ∀ W' s', Wr prog4 w 143 wc sp x da pl { b with out := b.out ++ [(Str.ofString "\n")] ++ [piT tg y] } W' → St B os G L m (W' ++ rest) s' → R (.ok (.ret .none)) s') :
    codeAny (model prog4 w) A (.call (.ref 140) ⟨[.ref x, .str tg t0, .str y t], []⟩) R s := by
  obtain ⟨σ, hc, hi⟩ := id hW
  obtain ⟨⟨⟨am, nz, a⟩, es, hps⟩, e1, e2, e3, hda, hou, hde, hns, hnz⟩ := hi
  have ho := nz.o
  obtain ⟨ti, ai⟩ := a.ign
  subst e1 e2 e3
  refine' call_fn (K := hd.heap_39 w.params) (binds := [((Str.ofString "self"), .ref σ.x), ((Str.ofString "target"), .str tg t0), ((Str.ofString "data"), .str y t)]) S C.X C.lim ?ho ?hcd ?hroom ?hbind ?hloc (fun L' oL s fc_ S => ?_) ?hco ?hgen ?hk ?hcell
  case ho => k_is
  case hcd => k_is
  case hco => rfl
  case hgen => rfl
  case hk => rfl
  case hcell => decide
  case hroom => first | omega | (simp only [depth_deeper]; omega) | (simp only [depth_deeper, depth_in1]; omega)
  case hbind => exact BindsTo.of_eq rfl
  case hloc => exact locs rfl
  simp only [List.reverse_cons, List.reverse_nil, List.nil_append, List.cons_append] at S
  rw [hc] at S
  refine wpAny_execs_cons (wpAny_If (wpAny_isTrue_value (Attribute_Name_ (ld S.F (by rfl) ?_))))
  refine attrS S C.X (by walk_at "mem") (by walk_at "mem") ho (by k_is) (by k_is) (by k_is) (by k_is) ai rfl (fun s S => ?_)
  refine PyProof.Rows.truthy_int (ifF (by rw [hign]; rfl) (wpAny_execs_nil ?_))
  refine wpAny_execs_cons (wpAny_If (wpAny_isTrue_value (Attribute_Name_ (ld S.F (by rfl) ?_))))
  refine attrS S C.X (by walk_at "mem") (by walk_at "mem") ho (by k_is) (by k_is) (by k_is) (by k_is) a.done rfl (fun s S => ?_)
  rw [hdone]
  refine wpAny_truthy_bool (ifT rfl ?_)
  rw [← hc] at S
  refine wpAny_execs_cons (writeStmt C S.sink hW (by omega) (by rfl) rfl rfl rfl rfl rfl (fun s S => wpAny_Constant_str ⟨_, _, _, rfl, S.tk, fun W' s hW' S => wpAny_execs_nil ?_⟩))
  refine wpAny_execs_cons (writeStmt C S hW' (by simp only [List.length_append, List.length_cons, List.length_nil]; omega) (by rfl) rfl rfl rfl rfl rfl (fun s S => ?_))
  refine wpAny_IfExp (wpAny_isTrue_value (ld S.F (by rfl) ?_))
  refine PySem.P.truthy_str (by omega) ?_
  rw [str_len0]
  refine ifT (by simp [hne]) ?_
  have S := S.tk (t := s.toks + 1 + 1)
  refine JoinedStr_many (joinParts_cons (wpAny_Constant_str ⟨by decide, joinParts_cons (FormattedValue_plain (ld S.F (by rfl) ?_))⟩))
  have z0 : Str.empty.length = 0 := by decide
  have z1 : (Str.ofString "<?").length = 2 := by decide
  have z2 : (Str.ofString " ").length = 1 := by decide
  have z3 : (Str.ofString "?>").length = 2 := by decide
  refine formatField_str (fun t5 tk => ⟨by rw [PySem.sizeLine_eq, strLen_append, strLen_append]; omega, joinParts_cons (wpAny_Constant_str ⟨by rw [PySem.sizeLine_eq, strLen_append, strLen_append, strLen_append]; omega, joinParts_cons (FormattedValue_plain ?_)⟩)⟩) (by rw [PySem.sizeLine_eq]; omega)
  have S := S.tk (t := tk + 1)
  refine wpAny_Call_ofName (globS C S (by k_is) ?_)
  refine callWith_K (K := hd.heap_39 w.params) C.X (by k_is) ?_
  refine spliced_more (ld S.F (by rfl) ?_)
  refine spliced_none ⟨S.X C.X, wpAny_call ?_⟩
  refine escape_spec hy C (by first | omega | (simp only [depth_deeper]; omega)) S (fun t4 s S => ?_)
  have hyl := escT_length hy
  refine formatField_str (fun t5 tk => ⟨by rw [PySem.sizeLine_eq, strLen_append, strLen_append, strLen_append, strLen_append]; omega, joinParts_cons (wpAny_Constant_str ⟨by rw [PySem.sizeLine_eq, strLen_append, strLen_append, strLen_append, strLen_append, strLen_append]; omega, joinParts_nil ?_ (by rw [PySem.sizeLine_eq, strLen_append, strLen_append, strLen_append, strLen_append, strLen_append]; omega)⟩)⟩) (by rw [PySem.sizeLine_eq]; omega)
  refine ⟨_, _, _, rfl, S.tk.tk.tk, fun W'' s hW'' S => ?_⟩
  refine wpAny_execs_cons (unseenIf C S hW'' hseen (by rfl) rfl rfl ?_)
  intro s S
  refine wpAny_execs_nil ?_
  exact k _ _ hW'' (S.rise.back fc_)
set_option maxHeartbeats 2000000 in
theorem pi_bad {v1 v2 : Value} (C : Cx (hd.heap_39 w.params) B) (hroom : A.depth + 4 < recursionLimit) (hh : A.handled = none) (hfr : A.frames = some (envOf en esc L ea ecd :: outer)) (hek : esc.kind = .function) (FF : OutF B outer fm fc) (S : St B os G L m (fc ++ rest) s)
    (hW : Wr prog4 w 143 wc sp x da pl b W) (hWr : ∀ p ∈ W, p ∈ rest) (sb : Spoilt b rest) (hign : b.ign = 0) (hdone : b.done = false) (hseen : b.seen = true)
    (k : ∀ e s', Fly B os G (envOf en esc L ea ecd :: outer) ((L, m) :: fm) rest e s' → R (.error (.ref e)) s') :
    codeAny (model prog4 w) A (.call (.ref 140) ⟨[.ref x, v1, v2], []⟩) R s := by
  obtain ⟨σ, hc, hi⟩ := id hW
  obtain ⟨⟨⟨am, nz, a⟩, es, hps⟩, e1, e2, e3, hda, hou, hde, hns, hnz⟩ := hi
  subst hc e1 e2 e3
  have ho := nz.o
  obtain ⟨ti, ai⟩ := a.ign
  have i1 := hWr _ (List.Mem.head _)
  have i2 := hWr _ (List.Mem.tail _ (List.Mem.head _))
  refine' call_fn (K := hd.heap_39 w.params) (binds := [((Str.ofString "self"), .ref σ.x), ((Str.ofString "target"), v1), ((Str.ofString "data"), v2)]) S C.X C.lim ?ho ?hcd ?hroom ?hbind ?hloc (fun L' oL s fc_ S => ?_) ?hco ?hgen ?hk ?hcell
  case ho => k_is
  case hcd => k_is
  case hco => rfl
  case hgen => rfl
  case hk => rfl
  case hcell => decide
  case hroom => first | omega | (simp only [depth_deeper]; omega) | (simp only [depth_deeper, depth_in1]; omega)
  case hbind => exact BindsTo.of_eq rfl
  case hloc => exact locs rfl
  simp only [List.reverse_cons, List.reverse_nil, List.nil_append, List.cons_append] at S
  have up : ∀ p ∈ rest, p ∈ (L, oL) :: (fc ++ rest) := fun p hp => .tail _ (List.mem_append.mpr (.inr hp))
  refine wpAny_execs_cons (wpAny_If (wpAny_isTrue_value (Attribute_Name_ (ld S.F (by rfl) ?_))))
  refine attrS S C.X (up _ i1) (up _ i2) ho (by k_is) (by k_is) (by k_is) (by k_is) ai rfl (fun s S => ?_)
  refine PyProof.Rows.truthy_int (ifF (by rw [hign]; rfl) (wpAny_execs_nil ?_))
  refine wpAny_execs_cons (wpAny_If (wpAny_isTrue_value (Attribute_Name_ (ld S.F (by rfl) ?_))))
  refine attrS S C.X (up _ i1) (up _ i2) ho (by k_is) (by k_is) (by k_is) (by k_is) a.done rfl (fun s S => ?_)
  rw [hdone]
  refine wpAny_truthy_bool (ifF rfl ?_)
  exact wpAny_execs_cons (flushIf2_bad (fc := (L, oL) :: fc) C (by first | omega | (simp only [depth_deeper]; omega)) hh (Around.frames_deeper hfr) (FF.cons fc_ hek) S hW hWr sb hseen (by rfl) rfl rfl rfl (fun e s' F => leave_on hfr F (fun s' F => k e s' F)))
end
end Mine
end
section
open PySem PySem.W PySem.Calls PyProof.Rows
set_option Elab.async false
set_option maxRecDepth 100000
set_option linter.unusedVariables false
namespace Mine
local macro_rules | `(tactic| walk_at "mem") => `(tactic| (repeat (first | assumption | exact List.Mem.head _ | refine List.Mem.tail _ ?_)))
local macro_rules | `(tactic| walk_at "up") => `(tactic| (repeat (first | exact Up.head | refine Up.tail ?_)))
section
variable {w : World} {A : Around} {E : Value → Shared → Prop} {s : Shared} {R : Result → Shared → Prop} {B : Heap} {os : OsState} {G : Array GenState} {L : Addr} {m : Str → Option Value} {rest news W : List Cell} {wc sp : Bool} {x da pl : Addr} {b : Abs}

variable {outer : List Env} {fm : List FMap} {fc : List Cell} {en : Str} {esc : Scope} {ea : Addr} {ecd : Value} {l : List (Str × Tok)}
/-- the pairs that a plain writer has declared -/
theorem W4.stk {C : Addr} {σ : W4} : StkL σ.st ((σ.lx, #[.ref σ.tp]) :: σ.dec.map fun a => (a, #[])) (σ.cells C) := by
  refine ⟨⟨σ.nst, ?_⟩, fun p hp => ?_⟩
  · have e : (((σ.lx, #[Value.ref σ.tp]) :: σ.dec.map fun a => (a, (#[] : Array Value))).map fun p => Value.ref p.1) = (σ.lx :: σ.dec).map Value.ref := by simp
    rw [e]
    exact (List.Mem.tail _ (List.Mem.tail _ (List.Mem.tail _ (List.Mem.head _))))
  · rcases List.mem_cons.mp hp with rfl | hp
    · exact ⟨0, (List.Mem.tail _ (List.Mem.tail _ (List.Mem.tail _ (List.Mem.tail _ (List.Mem.tail _ (List.Mem.tail _ (List.Mem.tail _ (List.Mem.tail _ (List.Mem.tail _ (List.Mem.head _))))))))))⟩
    · obtain ⟨a, ha, rfl⟩ := List.mem_map.mp hp
      refine ⟨0, ?_⟩
      exact List.Mem.tail _ (List.Mem.tail _ (List.Mem.tail _ (List.Mem.tail _ (List.Mem.tail _ (List.Mem.tail _ (List.Mem.tail _ (List.Mem.tail _ (List.Mem.tail _ (List.Mem.tail _ (List.Mem.tail _ (List.mem_append.mpr (.inl (List.mem_map.mpr ⟨a, ha, rfl⟩)))))))))))))
theorem outs_plain (lx tp : Addr) (dec : List Addr) : outs ((lx, #[Value.ref tp]) :: dec.map fun a => (a, (#[] : Array Value))) = [.ref tp] := by
  unfold outs
  have : ∀ d : List Addr, ((d.map fun a => (a, (#[] : Array Value))).reverse.map (·.2.toList)).flatten = [] := by
    intro d
    simp [List.flatten_eq_nil_iff]
  simp [List.reverse_cons, List.map_append, List.flatten_append, this]
set_option maxHeartbeats 2000000 in
/-- the name of a tag without a namespace -/
theorem qname_wr {tag : Str} {t₀ : Tok} (hts : tag.length ≤ 1000) (htag : (tag.cps.toList.take 1 == (Str.ofString "{").cps.toList) = false) (C : Cx (hd.heap_39 w.params) B) (hroom : A.depth + 2 < recursionLimit) (hh : A.handled = none) (S : St B os G L m (W ++ rest) s) (hW : Wr prog4 w 143 wc sp x da pl b W)
    (k : ∀ G' a t1 t2 t3 s', St B os G' L m ((a, tupO #[.str tag t1, .str tag t2, .str (Str.ofString "") t3]) :: (W ++ rest)) s' → R (.ok (.ret (.ref a))) s') :
    codeAny (model prog4 w) A (.call (.ref 83) ⟨[.ref x, .str tag t₀], []⟩) R s := by
  obtain ⟨σ, rfl, ⟨⟨⟨am, nz, a⟩, es, hps⟩, rfl, rfl, rfl, hda, hou, hde, hns, hnz⟩⟩ := hW
  have up : ∀ p ∈ σ.cells 143, p ∈ σ.cells 143 ++ rest := fun p hp => List.mem_append.mpr (.inl hp)
  refine qname_plain (li := (σ.lx, #[.ref σ.tp]) :: σ.dec.map fun a => (a, #[])) (pp := [(xmlUri, txt "xml")]) (by rw [PySem.sizeLine_eq]; omega) htag C hroom hh S (List.Mem.head _) (List.Mem.tail _ (List.Mem.head _)) nz.o a.dst a.m1 a.rew (W4.stk.mono up) ?_ ?_ ?_ ?_ k
  · intro p hp
    rcases List.mem_cons.mp hp with rfl | hp
    · show ((1 : Nat) : Int) < 2 ^ 63
      decide
    · obtain ⟨a, _, rfl⟩ := List.mem_map.mp hp
      show ((0 : Nat) : Int) < 2 ^ 63
      decide
  · rw [outs_plain]
    exact .cons (List.Mem.tail _ (List.Mem.tail _ (List.Mem.tail _ (List.Mem.tail _ (List.Mem.tail _ (List.Mem.tail _ (List.Mem.tail _ (List.Mem.tail _ (List.Mem.tail _ (List.Mem.tail _ (List.Mem.head _))))))))))) .nil
  · intro p hp
    rw [List.mem_singleton.mp hp]
    decide
  · rw [outs_plain]
    show 1 + 1 < scanBound
    decide
set_option maxHeartbeats 2000000 in
theorem end_skip {v : Value} {i : Nat} (C : Cx (hd.heap_39 w.params) B) (hroom : A.depth + 1 < recursionLimit) (S : St B os G L m (W ++ rest) s) (hW : Wr prog4 w 143 wc sp x da pl b W) (hign : b.ign = i + 1)
    (k : ∀ W' s', Wr prog4 w 143 wc sp x da pl { b with ign := i } W' → St B os G L m (W' ++ rest) s' → R (.ok (.ret .none)) s') :
    codeAny (model prog4 w) A (.call (.ref 126) ⟨[.ref x, v], []⟩) R s := by
  obtain ⟨σ, rfl, ⟨⟨⟨am, nz, a⟩, es, hps⟩, rfl, rfl, rfl, hda, hou, hde, hns, hnz⟩⟩ := hW
  have ho := nz.o
  obtain ⟨ti, ai⟩ := a.ign
  refine' call_fn (K := hd.heap_39 w.params) (binds := [((Str.ofString "self"), .ref σ.x), ((Str.ofString "tag"), v)]) S C.X C.lim ?ho ?hcd ?hroom ?hbind ?hloc (fun L' oL s fc_ S => ?_) ?hco ?hgen ?hk ?hcell
  case ho => k_is
  case hcd => k_is
  case hco => rfl
  case hgen => rfl
  case hk => rfl
  case hcell => decide
  case hroom => first | omega | (simp only [depth_deeper]; omega) | (simp only [depth_deeper, depth_in1]; omega)
  case hbind => exact BindsTo.of_eq rfl
  case hloc => exact locs rfl
  simp only [List.reverse_cons, List.reverse_nil, List.nil_append, List.cons_append] at S
  refine wpAny_execs_cons (wpAny_If (wpAny_isTrue_value (Attribute_Name_ (ld S.F (by rfl) ?_))))
  refine attrS S C.X (by walk_at "mem") (by walk_at "mem") ho (by k_is) (by k_is) (by k_is) (by k_is) ai rfl (fun s S => ?_)
  refine PyProof.Rows.truthy_int (ifT (by rw [hign]; simp; omega) ?_)
  refine wpAny_execs_cons (wpAny_AugAssign_AttributeAny (ld S.F (by rfl) ?_))
  refine attrS S C.X (by walk_at "mem") (by walk_at "mem") ho (by k_is) (by k_is) (by k_is) (by k_is) ai rfl (fun s S => ?_)
  refine wpAny_Constant_int (PySem.AutoIntOps.isub_0 ?_)
  have e : ((b.ign : Int) - 1) = (i : Int) := by omega
  rw [e]
  refine setK S.tk C.X (List.Mem.tail _ (List.Mem.head _)) (fun od' => (Up.tail (Up.tail Up.head))) nz (by decide) ai (by k_is) (by k_is) (by k_is) (by k_is) (fun od' s hz S => ?_)
  refine wpAny_execs_cons (wpAny_Return_none ?_)
  exact k _ _ ⟨{ σ with od := od' }, rfl, ⟨⟨⟨_, hz, a.putIgn.same ⟨rfl, rfl, rfl, rfl, rfl, rfl⟩⟩, es, hps⟩, rfl, rfl, rfl, hda, hou, hde, hns, hnz⟩⟩ (S.back fc_)
def endT (tag : Str) : Str := Str.empty ++ (Str.ofString "</") ++ tag ++ (Str.ofString ">")
set_option maxHeartbeats 4000000 in
theorem end_good {tag : Str} {t : Tok} {d : Nat} (hts : tag.length ≤ 1000) (htag : (tag.cps.toList.take 1 == (Str.ofString "{").cps.toList) = false) (C : Cx (hd.heap_39 w.params) B) (hroom : A.depth + 4 < recursionLimit) (hh : A.handled = none) (S : St B os G L m (W ++ rest) s) (hW : Wr prog4 w 143 wc sp x da pl b W) (hign : b.ign = 0) (hdat : b.data = strValues l) (hseen : b.seen = true) (hdep : b.dep = d + 1) (hd100 : d < 1000)
    (hln : l.length < 300) (hl : ∀ p ∈ l, p.1.length ≤ 3) (hout : b.out.length < 900)
    (k : ∀ G' W' s', Wr prog4 w 143 wc sp x da pl { b with data := [], out := b.out ++ flOut sp l ++ [endT tag], dep := d, done := decide (d = 0) } W' → St B os G' L m (W' ++ rest) s' → R (.ok (.ret .none)) s') :
    codeAny (model prog4 w) A (.call (.ref 126) ⟨[.ref x, .str tag t], []⟩) R s := by
  obtain ⟨σ, hc, hi⟩ := id hW
  obtain ⟨⟨⟨am, nz, a⟩, es, hps⟩, e1, e2, e3, hda, hou, hde, hns, hnz⟩ := hi
  have ho := nz.o
  obtain ⟨ti, ai⟩ := a.ign
  refine' call_fn (K := hd.heap_39 w.params) (binds := [((Str.ofString "self"), .ref x), ((Str.ofString "tag"), .str tag t)]) S C.X C.lim ?ho ?hcd ?hroom ?hbind ?hloc (fun L' oL s fc_ S => ?_) ?hco ?hgen ?hk ?hcell
  case ho => k_is
  case hcd => k_is
  case hco => rfl
  case hgen => rfl
  case hk => rfl
  case hcell => decide
  case hroom => first | omega | (simp only [depth_deeper]; omega) | (simp only [depth_deeper, depth_in1]; omega)
  case hbind => exact BindsTo.of_eq rfl
  case hloc => exact locs rfl
  simp only [List.reverse_cons, List.reverse_nil, List.nil_append, List.cons_append] at S
  have S := S.sink
  rw [hc] at S
  refine wpAny_execs_cons (wpAny_If (wpAny_isTrue_value (Attribute_Name_ (ld S.F (by rfl) ?_))))
  refine attrW S C.X e1 ho (by k_is) (by k_is) (by k_is) (by k_is) ai rfl (fun s S => ?_)
  refine PyProof.Rows.truthy_int (ifF (by rw [hign]; rfl) (wpAny_execs_nil ?_))
  rw [← hc] at S
  refine wpAny_execs_cons (flushIf C (by first | omega | (simp only [depth_deeper]; omega)) hh S hW hdat (.inl hseen) hln hl (by omega) (by rfl) rfl rfl rfl (fun W' s hW' S => ?_))
  have hfl : (flOut sp l).length ≤ 1 := by unfold flOut; split <;> simp
  clear hnz hns hde hou hda e3 e2 hps es hc ai a ho nz
  refine wpAny_execs_cons (writeStmt C S hW' (by simp only [List.length_append]; omega) (by rfl) rfl rfl rfl rfl rfl (fun s S => ?_))
  refine JoinedStr_many (joinParts_cons (wpAny_Constant_str ⟨by decide, joinParts_cons (FormattedValue_plain (Subscript_ ?_))⟩))
  have S := S.tk (t := s.toks + 1)
  refine methodCall_KW (ld S.F (by rfl) ?_)
  obtain ⟨σ', hc, hi⟩ := id hW'
  obtain ⟨⟨⟨am, nz, a⟩, es, hps⟩, e1, e2, e3, hda, hou, hde, hns, hnz⟩ := hi
  have ho := nz.o
  rw [hc] at S
  refine methW S C.X e1 ho (by k_is) (by k_is) (by k_is) a.m2 ?_
  refine callWith_K (K := hd.heap_39 w.params) C.X (by k_is) ?_
  refine spliced_more (ld S.F (by rfl) ?_)
  refine spliced_none ⟨S.X C.X, wpAny_call ?_⟩
  rw [← hc] at S
  refine qname_wr hts htag C (by first | omega | (simp only [depth_deeper]; omega)) hh S hW' (fun G' qa t1 t2 t3 s S => ?_)
  refine wpAny_Constant_int ?_
  refine tupItem (i := 0) S.tk (List.Mem.head _) rfl ?_
  have z0 : Str.empty.length = 0 := by decide
  have z1 : (Str.ofString "</").length = 2 := by decide
  have z2 : (Str.ofString ">").length = 1 := by decide
  refine formatField_str (fun t5 tk => ⟨by rw [PySem.sizeLine_eq, strLen_append, strLen_append]; omega, joinParts_cons (wpAny_Constant_str ⟨by rw [PySem.sizeLine_eq, strLen_append, strLen_append, strLen_append]; omega, joinParts_nil ?_ (by rw [PySem.sizeLine_eq, strLen_append, strLen_append, strLen_append]; omega)⟩)⟩) (by rw [PySem.sizeLine_eq]; omega)
  refine ⟨_, _, _, rfl, (S.drop (List.sublist_cons_self _ _)).tk.tk.tk, fun W'' s hW'' S => ?_⟩
  clear hnz hns hde hou hda e3 e2 e1 hps es a ho nz hc hW'
  obtain ⟨τ, rfl, ⟨⟨⟨am, nz, a⟩, es, hps⟩, e1, e2, e3, hda, hou, hde, hns, hnz⟩⟩ := hW''
  have ho := nz.o
  simp only at hda hou hde hns hnz
  refine wpAny_execs_cons (wpAny_Expr_any ?_ (by rfl) (by rfl))
  refine methodCall_KW (Attribute_Name_ (ld S.F (by rfl) ?_))
  refine attrW S C.X e1 ho (by k_is) (by k_is) (by k_is) (by k_is) a.psp rfl (fun s S => ?_)
  refine popM S (List.Mem.tail _ (List.Mem.tail _ (List.Mem.tail _ (List.Mem.tail _ (List.Mem.tail _ (List.Mem.head _)))))) (callWith_method0 ?_)
  refine popE (p := List.replicate (d + 1) (.bool false)) (y := .bool false) S (by rw [hps, hde, hdep, ← List.replicate_succ']) (Up.tail (Up.tail (Up.tail (Up.tail (Up.tail Up.head))))) (by simp; omega) (fun s S => ?_)
  have S : St B os G' L' _ ({ τ with psn := d + 1, nps := τ.nps + 1 }.cells 143 ++ ((L, oL) :: rest)) s := S
  refine wpAny_execs_cons (plainObj_wpAny_Assign_Attribute ?_)
  refine wpAny_Compare1 (wpAny_Call_ofName (bltS C S (by k_is) PySem.boot_len (by decide) ?_))
  refine PyProof.Rows.callWith_builtin1 ?_
  refine spliced_more (Attribute_Name_ (ld S.F (by rfl) ?_))
  refine attrW S C.X e1 ho (by k_is) (by k_is) (by k_is) (by k_is) a.psp rfl (fun s S => ?_)
  refine spliced_none ?_
  refine lenL S (List.Mem.tail _ (List.Mem.tail _ (List.Mem.tail _ (List.Mem.tail _ (List.Mem.tail _ (List.Mem.head _)))))) (by simp; omega) (fun tl s S => ?_)
  refine wpAny_Constant_int (PySem.P.eq_int ?_)
  have S := S.tk (t := s.toks + 1)
  refine ld S.F (by rfl) ?_
  refine setW S C.X e1 nz a.done (by k_is) (by k_is) (by k_is) (by k_is) (fun od' s nz S => ?_)
  have hdone : (((List.replicate (d + 1) (Value.bool false)).length : Int) == 1) = decide (d = 0) := by
    rw [List.length_replicate]
    by_cases h : d = 0
    · subst h; rfl
    · simp [h]; omega
  rw [hdone] at nz
  have a := a.putDone (done' := decide (d = 0))
  have ho := nz.o
  obtain ⟨dini, dz, hdz⟩ : ∃ i z, τ.dec = i ++ [z] := by
    rcases List.eq_nil_or_concat τ.dec with h | ⟨i, z, h⟩
    · rw [h] at hde; simp at hde; omega
    · exact ⟨i, z, by rw [h, List.concat_eq_append]⟩
  obtain ⟨nini, nq, hnq⟩ : ∃ i z, τ.nsl = i ++ [z] := by
    rcases List.eq_nil_or_concat τ.nsl with h | ⟨i, z, h⟩
    · rw [h] at hns; simp at hns
    · exact ⟨i, z, by rw [h, List.concat_eq_append]⟩
  refine wpAny_execs_cons (wpAny_Expr_any ?_ (by rfl) (by rfl))
  refine methodCall_KW (Attribute_Name_ (ld S.F (by rfl) ?_))
  refine attrW S C.X e1 ho (by k_is) (by k_is) (by k_is) (by k_is) a.dst rfl (fun s S => ?_)
  refine popM S (List.Mem.tail _ (List.Mem.tail _ (List.Mem.tail _ (List.Mem.head _)))) (callWith_method0 ?_)
  refine popE (p := (τ.lx :: dini).map Value.ref) (y := .ref dz) S (by rw [hdz]; simp) (Up.tail (Up.tail (Up.tail Up.head))) (by rw [hdz] at hde; simp at hde ⊢; omega) (fun s S => ?_)
  refine wpAny_execs_cons (wpAny_Expr_any ?_ (by rfl) (by rfl))
  refine methodCall_KW (Attribute_Name_ (ld S.F (by rfl) ?_))
  rw [← e1]
  refine attrS S C.X (List.Mem.head _) (List.Mem.tail _ (List.Mem.head _)) ho (by k_is) (by k_is) (by k_is) (by k_is) a.nss rfl (fun s S => ?_)
  refine popM S (List.Mem.tail _ (List.Mem.tail _ (List.Mem.tail _ (List.Mem.tail _ (List.Mem.head _))))) (callWith_method0 ?_)
  refine popE (p := nini.map fun q => Value.ref q.1) (y := .ref nq.1) S (by rw [hnq]; simp) (Up.tail (Up.tail (Up.tail (Up.tail Up.head)))) (by rw [hnq] at hns; simp at hns ⊢; omega) (fun s S => ?_)
  refine wpAny_execs_nil ?_
  refine k _ _ _ ⟨{ τ with od := od', dec := dini, nst := τ.nst + 1, nsl := nini, nns := τ.nns + 1, psn := d + 1, nps := τ.nps + 1 }, rfl, ⟨⟨⟨_, nz, a.same ⟨rfl, rfl, rfl, rfl, rfl, rfl⟩⟩, es, ?_⟩, e1, e2, e3, hda, hou, ?_, ?_, ?_⟩⟩ (St.back (St.rise (S.drop ?_)) fc_)
  · rw [hdz, List.length_append] at hde
    show d + 1 = dini.length + 1
    simp at hde
    omega
  · rw [hdz, List.length_append] at hde
    show dini.length = d
    simp at hde
    omega
  · rw [hnq, List.length_append] at hns
    show nini.length = d + 2
    simp at hns
    omega
  · intro q hq
    exact hnz q (by rw [hnq]; exact List.mem_append.mpr (.inl hq))
  · have hs1 : (decC dini).Sublist (decC τ.dec) := by rw [hdz]; exact (List.sublist_append_left dini [dz]).map _
    have hs2 : (nslC nini).Sublist (nslC τ.nsl) := by rw [hnq]; exact (List.sublist_append_left nini [nq]).map _
    exact (List.Sublist.cons_cons _ (List.Sublist.cons_cons _ (List.Sublist.cons_cons _ (List.Sublist.cons_cons _ (List.Sublist.cons_cons _ (List.Sublist.cons_cons _ (List.Sublist.cons_cons _ (List.Sublist.cons_cons _ (List.Sublist.cons_cons _ (List.Sublist.cons_cons _ (List.Sublist.cons_cons _ (List.Sublist.append (List.Sublist.append hs1 hs2) (List.Sublist.refl _)))))))))))))
set_option maxHeartbeats 2000000 in
theorem end_bad {v : Value} (C : Cx (hd.heap_39 w.params) B) (hroom : A.depth + 4 < recursionLimit) (hh : A.handled = none) (hfr : A.frames = some (envOf en esc L ea ecd :: outer)) (hek : esc.kind = .function) (FF : OutF B outer fm fc) (S : St B os G L m (fc ++ rest) s)
    (hW : Wr prog4 w 143 wc sp x da pl b W) (hWr : ∀ p ∈ W, p ∈ rest) (sb : Spoilt b rest) (hign : b.ign = 0)
    (k : ∀ e s', Fly B os G (envOf en esc L ea ecd :: outer) ((L, m) :: fm) rest e s' → R (.error (.ref e)) s') :
    codeAny (model prog4 w) A (.call (.ref 126) ⟨[.ref x, v], []⟩) R s := by
  obtain ⟨σ, hc, hi⟩ := id hW
  obtain ⟨⟨⟨am, nz, a⟩, es, hps⟩, e1, e2, e3, hda, hou, hde, hns, hnz⟩ := hi
  subst hc e1 e2 e3
  have ho := nz.o
  obtain ⟨ti, ai⟩ := a.ign
  have i1 := hWr _ (List.Mem.head _)
  have i2 := hWr _ (List.Mem.tail _ (List.Mem.head _))
  refine' call_fn (K := hd.heap_39 w.params) (binds := [((Str.ofString "self"), .ref σ.x), ((Str.ofString "tag"), v)]) S C.X C.lim ?ho ?hcd ?hroom ?hbind ?hloc (fun L' oL s fc_ S => ?_) ?hco ?hgen ?hk ?hcell
  case ho => k_is
  case hcd => k_is
  case hco => rfl
  case hgen => rfl
  case hk => rfl
  case hcell => decide
  case hroom => first | omega | (simp only [depth_deeper]; omega) | (simp only [depth_deeper, depth_in1]; omega)
  case hbind => exact BindsTo.of_eq rfl
  case hloc => exact locs rfl
  simp only [List.reverse_cons, List.reverse_nil, List.nil_append, List.cons_append] at S
  have up : ∀ p ∈ rest, p ∈ (L, oL) :: (fc ++ rest) := fun p hp => .tail _ (List.mem_append.mpr (.inr hp))
  refine wpAny_execs_cons (wpAny_If (wpAny_isTrue_value (Attribute_Name_ (ld S.F (by rfl) ?_))))
  refine attrS S C.X (up _ i1) (up _ i2) ho (by k_is) (by k_is) (by k_is) (by k_is) ai rfl (fun s S => ?_)
  refine PyProof.Rows.truthy_int (ifF (by rw [hign]; rfl) (wpAny_execs_nil ?_))
  exact wpAny_execs_cons (flushIf_bad (fc := (L, oL) :: fc) C (by first | omega | (simp only [depth_deeper]; omega)) hh (Around.frames_deeper hfr) (FF.cons fc_ hek) S hW hWr sb (by rfl) rfl rfl rfl (fun e s' F => leave_on hfr F (fun s' F => k e s' F)))
end
end Mine
end
section
open PySem PySem.W PySem.Calls PyProof.Rows
set_option Elab.async false
set_option maxRecDepth 100000
set_option linter.unusedVariables false
namespace Mine
local macro_rules | `(tactic| walk_at "mem") => `(tactic| (repeat (first | assumption | exact List.Mem.head _ | refine List.Mem.tail _ ?_)))
local macro_rules | `(tactic| walk_at "up") => `(tactic| (repeat (first | exact Up.head | refine Up.tail ?_)))
section
variable {w : World} {A : Around} {E : Value → Shared → Prop} {s : Shared} {R : Result → Shared → Prop} {B : Heap} {os : OsState} {G : Array GenState} {L : Addr} {m : Str → Option Value} {rest news W : List Cell} {wc sp : Bool} {x da pl : Addr} {b : Abs}

variable {outer : List Env} {fm : List FMap} {fc : List Cell} {en : Str} {esc : Scope} {ea : Addr} {ecd : Value} {l : List (Str × Tok)}
/-- the code table of _start, with or without the code of its lambda -/
def Tb (w : World) (T : List Cell) : Prop := T = [(116, tabObj #[])] ∨ ∃ c' oc, T = [(c', oc), (116, tabObj #[rawInt 136, rawInt 71, .ref c'])] ∧ CodeO oc (Str.ofString "C14NWriterTarget._start.<locals>.<lambda>")
abbrev lamQ : Str := (Str.ofString "C14NWriterTarget._start.<locals>.<lambda>")
theorem lamT {T pre : List Cell} {Q : Value → Shared → Prop} {a : Addr} {cs : Scope} {cl : List (Str × Addr)} {params : Arguments} {body : PySem.Expr} {scope : Scope} {el ec : Nat} (H : Lam B 118 116) (S : St B os G L m (pre ++ (T ++ rest)) s) (hT : Tb w T)
    (hcl : closureFor scope (envX (Str.ofString "C14NWriterTarget._start") cs L a (.ref 118) cl) = pure []) (hdef : defaultsOf params (envX (Str.ofString "C14NWriterTarget._start") cs L a (.ref 118) cl) = ([], []))
    (h : ∀ f c' oc T' pm ctv s', Tb w T' → (c', oc) ∈ T' → CodeO oc lamQ → St B os G L m ((f, kla_obj "<lambda>" lamQ params body scope [] pm c' ctv) :: (pre ++ (T' ++ rest))) s' → Q (.ref f) s') :
    wpAny (model prog4 w) A (eval (.Lambda params body scope ⟨136, 71, el, ec⟩) (envX (Str.ofString "C14NWriterTarget._start") cs L a (.ref 118) cl)) Q E s := by
  have e : (envX (Str.ofString "C14NWriterTarget._start") cs L a (.ref 118) cl).qual ++ "<lambda>" = lamQ := by show (Str.ofString "C14NWriterTarget._start") ++ ".<locals>." ++ "<lambda>" = _; decide +kernel
  rcases hT with rfl | ⟨c', oc, rfl, hc⟩
  · refine lam1 (news' := fun o' => pre ++ ((116, o') :: rest)) (ps := #[]) H S rfl (fun o' => Up.head.pre pre) trivial rfl hcl hdef (fun f c' oc pm ctv s' hco S => ?_)
    rw [e] at hco S
    refine h f c' oc [(c', oc), (116, tabObj #[rawInt 136, rawInt 71, .ref c'])] pm ctv s' (.inr ⟨c', oc, rfl, hco⟩) (.head _) hco ?_
    exact S.perm (List.Perm.cons _ List.perm_middle.symm)
  · refine lam2 (ps := #[rawInt 136, rawInt 71, .ref c']) H S rfl (List.mem_append.mpr (.inr (.tail _ (.head _)))) trivial rfl hcl hdef (fun f pm ctv s' S => ?_)
    rw [e] at S
    exact h f c' oc _ pm ctv s' (.inr ⟨c', oc, rfl, hc⟩) (.head _) hc S
set_option maxHeartbeats 2000000 in
theorem qname_w4 {σ : W4} {am : Str → Option Value} {seen done : Bool} {ign : Nat} {tag : Str} {t₀ : Tok} (hts : tag.length ≤ 1000) (htag : (tag.cps.toList.take 1 == (Str.ofString "{").cps.toList) = false) (C : Cx (hd.heap_39 w.params) B) (hroom : A.depth + 2 < recursionLimit) (hh : A.handled = none) (S : St B os G L m news s) (up : ∀ p ∈ σ.cells 143, p ∈ news) (nz : NsZ 20 σ.od am) (a : Am4 am σ wc sp seen done ign)
    (k : ∀ G' a t1 t2 t3 s', St B os G' L m ((a, tupO #[.str tag t1, .str tag t2, .str (Str.ofString "") t3]) :: news) s' → R (.ok (.ret (.ref a))) s') :
    codeAny (model prog4 w) A (.call (.ref 83) ⟨[.ref σ.x, .str tag t₀], []⟩) R s := by
  refine qname_plain (li := (σ.lx, #[.ref σ.tp]) :: σ.dec.map fun a => (a, #[])) (pp := [(xmlUri, txt "xml")]) (by rw [PySem.sizeLine_eq]; omega) htag C hroom hh S (up _ (List.Mem.head _)) (up _ (List.Mem.tail _ (List.Mem.head _))) nz.o a.dst a.m1 a.rew (W4.stk.mono up) ?_ ?_ ?_ ?_ k
  · intro p hp
    rcases List.mem_cons.mp hp with rfl | hp
    · show ((1 : Nat) : Int) < 2 ^ 63
      decide
    · obtain ⟨a, _, rfl⟩ := List.mem_map.mp hp
      show ((0 : Nat) : Int) < 2 ^ 63
      decide
  · rw [outs_plain]
    exact .cons (up _ (List.Mem.tail _ (List.Mem.tail _ (List.Mem.tail _ (List.Mem.tail _ (List.Mem.tail _ (List.Mem.tail _ (List.Mem.tail _ (List.Mem.tail _ (List.Mem.tail _ (List.Mem.tail _ (List.Mem.head _)))))))))))) .nil
  · intro p hp
    rw [List.mem_singleton.mp hp]
    decide
  · rw [outs_plain]
    show 1 + 1 < scanBound
    decide
/-- the writer behind a start -/
abbrev W4.begun (σ : W4) (od' : Obj) (na : Addr) (tag : Str) (t1 t2 : Tok) : W4 :=
  { σ with od := od', psn := σ.psn + 1, nps := σ.nps + 1, out := σ.out ++ [Value.str ((Str.ofString "<") ++ tag) t1, Value.str (Str.ofString ">") t2], npl := σ.npl + 2, nsl := σ.nsl ++ [(na, #[], 0)], nns := σ.nns + 1 }
theorem W4.begun_cells {C : Addr} (σ : W4) (od' : Obj) (na : Addr) (tag : Str) (t1 t2 : Tok) : (σ.begun od' na tag t1 t2).cells C =
    ((σ.x, instO C σ.dx) :: (σ.dx, od') :: (σ.da, listOf σ.data.toArray σ.nd) :: (σ.st, listOf ((σ.lx :: σ.dec).map Value.ref).toArray σ.nst) :: (σ.ns, listOf ((σ.nsl.map fun q : Addr × Array Value × Nat => Value.ref q.1) ++ [Value.ref na]).toArray (σ.nns + 1)) :: (σ.ps, listOf (List.replicate (σ.psn + 1) (Value.bool false)).toArray (σ.nps + 1)) ::
    (σ.es, σ.oes) :: (σ.bm, bmO σ.pl) :: (σ.pl, listOf ((σ.out ++ [Value.str ((Str.ofString "<") ++ tag) t1]) ++ [Value.str (Str.ofString ">") t2]).toArray (σ.npl + 1 + 1)) :: (σ.lx, listOf #[.ref σ.tp] 0) :: (σ.tp, tupO #[.str xmlUri σ.tx1, .str (txt "xml") σ.tx2]) :: (decC σ.dec ++ nslC σ.nsl)) ++ [(na, listOf #[] 0)] := by
  simp [W4.begun, W4.cells, nslC, decC]
theorem W4.begun_st {C : Addr} {σ : W4} {od' : Obj} {na : Addr} {tag : Str} {t1 t2 : Tok} {Lc : Cell} {r : List Cell} {L' : Addr} (S : St B os G L' m ((na, listOf #[] 0) :: Lc ::
    (((σ.x, instO C σ.dx) :: (σ.dx, od') :: (σ.da, listOf σ.data.toArray σ.nd) :: (σ.st, listOf ((σ.lx :: σ.dec).map Value.ref).toArray σ.nst) :: (σ.ns, listOf ((σ.nsl.map fun q : Addr × Array Value × Nat => Value.ref q.1) ++ [Value.ref na]).toArray (σ.nns + 1)) :: (σ.ps, listOf (List.replicate (σ.psn + 1) (Value.bool false)).toArray (σ.nps + 1)) ::
    (σ.es, σ.oes) :: (σ.bm, bmO σ.pl) :: (σ.pl, listOf ((σ.out ++ [Value.str ((Str.ofString "<") ++ tag) t1]) ++ [Value.str (Str.ofString ">") t2]).toArray (σ.npl + 1 + 1)) :: (σ.lx, listOf #[.ref σ.tp] 0) :: (σ.tp, tupO #[.str xmlUri σ.tx1, .str (txt "xml") σ.tx2]) :: (decC σ.dec ++ nslC σ.nsl)) ++ r)) s) :
    St B os G L' m (Lc :: ((σ.begun od' na tag t1 t2).cells C ++ r)) s := by
  rw [W4.begun_cells, List.append_assoc, List.singleton_append]
  exact S.perm ((List.Perm.swap ..).trans (List.Perm.cons _ List.perm_middle.symm))
set_option maxHeartbeats 4000000 in
theorem start_in {σ : W4} {am : Str → Option Value} {seen done : Bool} {ign : Nat} {tag : Str} {t : Tok} {D nn : Addr} {ep : Nat} {T : List Cell} (H : Lam B 118 116) (hts : tag.length ≤ 1000) (htag : (tag.cps.toList.take 1 == (Str.ofString "{").cps.toList) = false) (C : Cx (hd.heap_39 w.params) B) (hroom : A.depth + 5 < recursionLimit) (hh : A.handled = none)
    (S : St B os G L m (σ.cells 143 ++ (T ++ rest)) s) (hT : Tb w T) (nz : NsZ 20 σ.od am) (a : Am4 am σ wc sp seen done ign) (hD : (D, dictO #[] ep) ∈ rest) (hDm : (D == sysModules) = false) (hnn : (nn, listOf #[] 0) ∈ σ.cells 143) {pp : Nat} (hps : σ.psn = pp + 1) (hp1 : pp < 1000) (hol : σ.out.length < 10000) (hnl : σ.nsl.length < 1000)
    (k : ∀ G' T' od' am' na t1 t2 s', Tb w T' → NsZ 20 od' am' → Am4 am' σ wc sp true done ign → St B os G' L m ((σ.begun od' na tag t1 t2).cells 143 ++ (T' ++ rest)) s' → R (.ok (.ret .none)) s') :
    codeAny (model prog4 w) A (.call (.ref 119) ⟨[.ref σ.x, .str tag t, .ref D, .ref nn], []⟩) R s := by
  have ho := nz.o
  refine' call_fnC (K := hd.heap_39 w.params) (binds := [((Str.ofString "self"), .ref σ.x), ((Str.ofString "tag"), .str tag t), ((Str.ofString "attrs"), .ref D), ((Str.ofString "new_namespaces"), .ref nn), ((Str.ofString "qname_text"), .none)]) S C.X C.lim ?ho ?hcd ?hroom ?hbind ?hkind ?hnd ?hnd2 (fun L' oL cells s fc_ Y S => ?_) ?hco ?hgen ?hk
  case ho => k_is
  case hcd => k_is
  case hco => rfl
  case hgen => rfl
  case hk => rfl
  case hroom => first | omega | (simp only [depth_deeper]; omega) | (simp only [depth_deeper, depth_in1]; omega)
  case hbind => exact BindsTo.of_defaults (T := 114) rfl (S.X C.X _ _ (by k_is)) rfl rfl rfl
  case hkind => exact kindsX rfl
  case hnd => decide
  case hnd2 => intro n; show [n + 1, n].Nodup; simp
  have Y' : CellsAre _ [((Str.ofString "parse_qname"), L' + 2), ((Str.ofString "self"), L' + 1)] cells := Y
  clear Y
  obtain ⟨o1, o2, rfl, d1, d2⟩ := Y'.two
  clear Y'
  have d1 : o1.data = .cell none := d1
  have d2 : o2.data = .cell (some (.ref σ.x)) := d2
  obtain ⟨m1, S, et, ea, en, eq⟩ : ∃ m1, St B os G L' m1 ((L' + 2, o1) :: (L' + 1, o2) :: (L, oL) :: (σ.cells 143 ++ (T ++ rest))) s ∧ m1 (Str.ofString "tag") = some (.str tag t) ∧ m1 (Str.ofString "attrs") = some (.ref D) ∧ m1 (Str.ofString "new_namespaces") = some (.ref nn) ∧ m1 (Str.ofString "qname_text") = some .none := ⟨_, S, by rfl, by rfl, by rfl, by rfl⟩
  show wpAny _ (A.deeper (envX _ _ _ _ _ [((Str.ofString "parse_qname"), L' + 2), ((Str.ofString "self"), L' + 1)])) (execs _ (envX _ _ _ _ _ [((Str.ofString "parse_qname"), L' + 2), ((Str.ofString "self"), L' + 1)])) _ _ _
  refine wpAny_execs_cons (wpAny_If (wpAny_isTrue_BoolOp (wpAny_allTrue_And_cons (wpAny_isTrue_Compare1 (Attribute_Name_ (ldCell S rfl (List.Mem.tail _ (List.Mem.head _)) d2 ?_))))))
  refine attrS S C.X (List.Mem.tail _ (List.Mem.tail _ (List.Mem.tail _ (List.Mem.head _)))) (List.Mem.tail _ (List.Mem.tail _ (List.Mem.tail _ (List.Mem.tail _ (List.Mem.head _))))) ho (by k_is) (by k_is) (by k_is) (by k_is) a.exa rfl (fun s S => ?_)
  refine wpAny_Constant_none (wpAny_isNot_plain rfl (wpAny_truthy_bool (ifF rfl (ifF rfl (wpAny_execs_nil ?_)))))
  refine wpAny_execs_cons (wpAny_Assign_Name ?_)
  refine setDispS (D := D) (k := tag) (t := t) (ep := ep) hh S C.X (by kernel_rfl) rfl rfl rfl (List.Mem.tail _ (List.Mem.tail _ (List.Mem.tail _ (List.mem_append.mpr (.inr (List.mem_append.mpr (.inr hD))))))) hDm (fun qs led s S => ?_)
  refine ldX S et ⟨rfl, S, fun oq s hq S => ldX S ea ⟨rfl, S, fun s S => ?_⟩⟩
  refine stX S (fun s S => ?_)
  refine wpAny_execs_cons (wpAny_Assign_Name (dict0S S C.lim (fun rn s hrm S => ?_)))
  refine stX S (fun s S => ?_)
  have S := S.drop (List.sublist_cons_self _ _)
  refine wpAny_execs_cons (wpAny_If (wpAny_isTrue_Compare1 (ldX S (v := .none) (by exact eq) (wpAny_Constant_none (wpAny_isNot_plain rfl (wpAny_truthy_bool (ifF rfl (wpAny_execs_nil ?_))))))))
  refine wpAny_execs_cons (wpAny_If (wpAny_isTrue_BoolOp (wpAny_allTrue_And_cons (wpAny_isTrue_Compare1 (Attribute_Name_ (ldCell S rfl (List.Mem.tail _ (List.Mem.tail _ (List.Mem.head _))) d2 ?_))))))
  refine attrS S C.X (List.Mem.tail _ (List.Mem.tail _ (List.Mem.tail _ (List.Mem.tail _ (List.Mem.head _))))) (List.Mem.tail _ (List.Mem.tail _ (List.Mem.tail _ (List.Mem.tail _ (List.Mem.tail _ (List.Mem.head _)))))) ho (by k_is) (by k_is) (by k_is) (by k_is) a.fqa rfl (fun s S => ?_)
  refine wpAny_Constant_none (wpAny_isNot_plain rfl (wpAny_truthy_bool (ifF rfl (ifF rfl ?_))))
  refine wpAny_execs_cons (wpAny_Assign_Name (wpAny_Constant_none (stX S (fun s S => wpAny_execs_nil ?_))))
  refine wpAny_execs_cons (wpAny_Assign_Name (Attribute_Name_ (ldCell S rfl (List.Mem.tail _ (List.Mem.tail _ (List.Mem.head _))) d2 ?_)))
  refine boundS S C.X (List.Mem.tail _ (List.Mem.tail _ (List.Mem.tail _ (List.Mem.tail _ (List.Mem.head _))))) (List.Mem.tail _ (List.Mem.tail _ (List.Mem.tail _ (List.Mem.tail _ (List.Mem.tail _ (List.Mem.head _)))))) ho (by k_is) (by k_is) (by k_is) (by k_is) (by k_is) (by k_is) (by rfl) a.m2 (fun bq s S => ?_)
  refine stCell S rfl (fun o' => (Up.tail (Up.tail Up.head))) d1 (fun o1' s d1' S => ?_)
  clear d1
  obtain ⟨m2, S, et, ea, en, eq, eqs⟩ : ∃ m2, St B os G L' m2 ((bq, methodObj (.ref 83) (.ref σ.x)) :: (qs, oq) :: (L' + 2, o1') :: (L' + 1, o2) :: (L, oL) :: (σ.cells 143 ++ (T ++ rest))) s ∧ m2 (Str.ofString "tag") = some (.str tag t) ∧ m2 (Str.ofString "attrs") = some (.ref D) ∧ m2 (Str.ofString "new_namespaces") = some (.ref nn) ∧ m2 (Str.ofString "qname_text") = some .none ∧ m2 (Str.ofString "qnames") = some (.ref qs) := ⟨_, S, by exact et, by exact ea, by exact en, by exact eq, by rfl⟩
  show wpAny _ _ (execs _ _) _ _ _
  refine wpAny_execs_cons (dictCompS (m := m2) (B := B) (os := os) hh (by rfl) (by rfl) (by decide) rfl (by decide) (by rfl) (by rfl) rfl (by intro _; rfl) ?_)
  refine wpAny_Call_ofName (bltX C S (by k_is) boot_sorted (by decide) ?_)
  refine callWith_kw ?_
  refine spliced_more (ldX S eqs ?_)
  refine spliced_none (kws_cons ?_)
  refine lamT (pre := (bq, methodObj (.ref 83) (.ref σ.x)) :: (qs, oq) :: (L' + 2, o1') :: (L' + 1, o2) :: (L, oL) :: σ.cells 143) (T := T) (rest := rest) H S hT (by rfl) (by rfl) (fun f c' oc T' pm ctv s hT' hc' hco S => ?_)
  refine kws_nil ?_
  show wpAny _ _ (call (.builtin "sorted") [.ref qs] [((Str.ofString "key"), .ref f)]) _ _ _
  refine sortedOne (a := qs) (o := oq) hh S (List.Mem.tail _ (List.Mem.tail _ (List.Mem.head _))) hq (fun own s S => ?_) (fun l n s S => ?_)
  · refine wpAny_call (call_lam S C.lim (List.mem_append.mpr (.inr (.head _))) (List.mem_append.mpr (.inr (.tail _ (List.mem_append.mpr (.inr (List.mem_append.mpr (.inl hc'))))))) hco (by simp only [depth_deeper]; omega) (by rfl) (binds := [((Str.ofString "n"), .str tag t)]) (locs rfl) (fun L2 oL2 s f2 S => ?_) rfl rfl rfl (by decide))
    refine methodCall_KW (ld S.F (by rfl) (GM.split (callWith_method1 ?_ rfl)))
    refine spliced_more (wpAny_Constant_str (spliced_more (wpAny_Constant_int (spliced_none ?_))))
    refine split2S S.tk.tk (by decide) (by decide) hts (fun ls sa s _ S => ?_)
    exact (S.drop (List.sublist_cons_self _ _)).back f2
  refine ⟨l, .str tag t, n, G, _, rfl, S, fun C' D' oL' it oit s E' f' hit S => ?_⟩
  refine ldComp S (by rfl) ?_
  refine wpAny_Call_ofName (ldCompCell S (c := L' + 2) (by rfl) (List.Mem.tail _ (List.Mem.tail _ (List.Mem.tail _ (List.Mem.tail _ (List.Mem.tail _ (List.Mem.tail _ (List.Mem.tail _ (List.Mem.head _)))))))) d1' ?_ (by rfl))
  refine callWith_M (K := hd.heap_39 w.params) C.X S.N (g := 83) (self := .ref σ.x) (List.Mem.tail _ (List.Mem.tail _ (List.Mem.tail _ (List.Mem.tail _ (List.Mem.tail _ (List.Mem.head _)))))) (by k_is) ?_
  refine spliced_more (ldComp S (by rfl) ?_)
  refine spliced_none ⟨methP S.N (List.Mem.tail _ (List.Mem.tail _ (List.Mem.tail _ (List.Mem.tail _ (List.Mem.tail _ (List.Mem.head _)))))) (S.X C.X), call_meth S.N (f := .ref 83) (self := .ref σ.x) (List.Mem.tail _ (List.Mem.tail _ (List.Mem.tail _ (List.Mem.tail _ (List.Mem.tail _ (List.Mem.head _)))))) ?_⟩
  show codeAny _ _ (.call (.ref 83) ⟨[.ref σ.x, .str tag t], []⟩) _ _
  refine qname_w4 hts htag C (by simp only [depth_deeper]; omega) hh S (fun p hp => List.Mem.tail _ (List.Mem.tail _ (List.Mem.tail _ (List.Mem.tail _ (List.Mem.tail _ (List.Mem.tail _ (List.Mem.tail _ (List.Mem.tail _ (List.Mem.tail _ (List.Mem.tail _ (List.mem_append.mpr (.inl hp)))))))))))) nz a (fun G' qa t1 t2 t3 s S => ?_)
  refine ⟨tag, t, G', (qa, tupO #[.str tag t1, .str tag t2, .str (Str.ofString "") t3]) :: _, rfl, S.perm (List.perm_middle (l₁ := [_, _, _, _])).symm, fun oD' s hD' S => ?_⟩
  have S := S.drop (.cons_cons _ (.cons_cons _ (.cons _ (.cons _ (.cons _ (.cons _ (.refl _)))))))
  clear hit f' hq d1' hco hc' eqs
  obtain ⟨m3, S, et, ea, en, eq, epq⟩ : ∃ m3, St B os G' L' m3 ((D', oD') :: (qa, tupO #[.str tag t1, .str tag t2, .str (Str.ofString "") t3]) :: (L' + 1, o2) :: (L, oL) :: (σ.cells 143 ++ (T' ++ rest))) s ∧ m3 (Str.ofString "tag") = some (.str tag t) ∧ m3 (Str.ofString "attrs") = some (.ref D) ∧ m3 (Str.ofString "new_namespaces") = some (.ref nn) ∧ m3 (Str.ofString "qname_text") = some .none ∧ m3 (Str.ofString "parsed_qnames") = some (.ref D') := ⟨_, S, by exact et, by exact ea, by exact en, by exact eq, by rfl⟩
  show wpAny _ _ (execs _ _) _ _ _
  refine wpAny_execs_cons (wpAny_If (wpAny_isTrue_value (ldX S en (truthy_listS (l := []) S (List.Mem.tail _ (List.Mem.tail _ (List.Mem.tail _ (List.Mem.tail _ (List.mem_append.mpr (.inl hnn)))))) (by decide) (fun s S => ifF rfl ?_)))))
  refine wpAny_execs_cons (wpAny_Assign_Name (List_ (spliced_none (listS S (fun al s S => stX S (fun s S => wpAny_execs_nil ?_))))))
  have iD : (D, dictO #[] ep) ∈ (al, listOf [].toArray 0) :: (D', oD') :: (qa, tupO #[.str tag t1, .str tag t2, .str (Str.ofString "") t3]) :: (L' + 1, o2) :: (L, oL) :: (σ.cells 143 ++ (T' ++ rest)) := List.Mem.tail _ (List.Mem.tail _ (List.Mem.tail _ (List.Mem.tail _ (List.Mem.tail _ (List.mem_append.mpr (.inr (List.mem_append.mpr (.inr hD))))))))
  refine wpAny_execs_cons (wpAny_If (wpAny_isTrue_value (ldX S (by exact ea) (truthy_dict0S S iD hDm (fun s S => ifF rfl (wpAny_execs_nil ?_))))))
  refine wpAny_execs_cons (wpAny_Assign_Name (methodCall_KW (ldX S (by exact ea) (dictGetM S iD dictO_is (callWith_method1 (spliced_more (wpAny_Constant_str (spliced_none (dictGet S.tk iD dictO_is hDm (fun s S => ?_))))) rfl)))))
  refine stX (v := .none) S (fun s S => ?_)
  refine wpAny_execs_cons (wpAny_Expr_any ?_ (by rfl) (by rfl))
  refine methodCall_KW (Attribute_Name_ (ldCell S rfl (List.Mem.tail _ (List.Mem.tail _ (List.Mem.tail _ (List.Mem.head _)))) d2 ?_))
  refine attrS S C.X (List.Mem.tail _ (List.Mem.tail _ (List.Mem.tail _ (List.Mem.tail _ (List.Mem.tail _ (List.Mem.head _)))))) (List.Mem.tail _ (List.Mem.tail _ (List.Mem.tail _ (List.Mem.tail _ (List.Mem.tail _ (List.Mem.tail _ (List.Mem.head _))))))) ho (by k_is) (by k_is) (by k_is) (by k_is) a.psp rfl (fun s S => ?_)
  refine appM S (List.Mem.tail _ (List.Mem.tail _ (List.Mem.tail _ (List.Mem.tail _ (List.Mem.tail _ (List.Mem.tail _ (List.Mem.tail _ (List.Mem.tail _ (List.Mem.tail _ (List.Mem.tail _ (List.Mem.head _))))))))))) (callWith_method1 ?_ rfl)
  refine spliced_more (wpAny_IfExp (wpAny_isTrue_value (ldX S (by rfl) (truthy_none (ifF rfl ?_)))))
  refine Subscript_ (Attribute_Name_ (ldCell S rfl (List.Mem.tail _ (List.Mem.tail _ (List.Mem.tail _ (List.Mem.head _)))) d2 ?_))
  refine attrS S C.X (List.Mem.tail _ (List.Mem.tail _ (List.Mem.tail _ (List.Mem.tail _ (List.Mem.tail _ (List.Mem.head _)))))) (List.Mem.tail _ (List.Mem.tail _ (List.Mem.tail _ (List.Mem.tail _ (List.Mem.tail _ (List.Mem.tail _ (List.Mem.head _))))))) ho (by k_is) (by k_is) (by k_is) (by k_is) a.psp rfl (fun s S => ?_)
  refine minus1 S (fun tt s S => ?_)
  refine lastS (l := List.replicate pp (.bool false)) (x := .bool false) (n := σ.nps) S (by rw [← List.replicate_succ', ← hps]; exact (List.Mem.tail _ (List.Mem.tail _ (List.Mem.tail _ (List.Mem.tail _ (List.Mem.tail _ (List.Mem.tail _ (List.Mem.tail _ (List.Mem.tail _ (List.Mem.tail _ (List.Mem.tail _ (List.Mem.head _)))))))))))) ?_
  refine spliced_none ?_
  refine appendL S (news' := (al, listOf [].toArray 0) :: (D', oD') :: (qa, tupO #[.str tag t1, .str tag t2, .str (Str.ofString "") t3]) :: (L' + 1, o2) :: (L, oL) :: ({ σ with psn := σ.psn + 1, nps := σ.nps + 1 }.cells 143 ++ (T' ++ rest))) (by rw [← List.replicate_succ']; exact (Up.tail (Up.tail (Up.tail (Up.tail (Up.tail (Up.tail (Up.tail (Up.tail (Up.tail (Up.tail Up.head))))))))))) (fun s S => ?_) (by simp; omega)
  refine wpAny_execs_cons (wpAny_Assign_Name (Attribute_Name_ (ldCell S rfl (List.Mem.tail _ (List.Mem.tail _ (List.Mem.tail _ (List.Mem.head _)))) d2 ?_)))
  refine attrS S C.X (List.Mem.tail _ (List.Mem.tail _ (List.Mem.tail _ (List.Mem.tail _ (List.Mem.tail _ (List.Mem.head _)))))) (List.Mem.tail _ (List.Mem.tail _ (List.Mem.tail _ (List.Mem.tail _ (List.Mem.tail _ (List.Mem.tail _ (List.Mem.head _))))))) ho (by k_is) (by k_is) (by k_is) (by k_is) a.write rfl (fun s S => ?_)
  refine stX S (fun s S => ?_)
  refine wpAny_execs_cons (wpAny_Expr_any ?_ (by rfl) (by rfl))
  refine wpAny_Call_ofName (ldX S (by rfl) ?_)
  refine callWith_bmS (fs := #[.builtin "list.append", .ref σ.pl]) ?_
  refine spliced_more (wpAny_BinOp (wpAny_Constant_str (Subscript_ (Subscript_ (ldX S.tk (by exact epq) (ldX S.tk (by exact et) ?_))))))
  refine dictItem (v := .ref qa) S.tk (List.Mem.tail _ (List.Mem.head _)) hD' (by simp [valueAt]) (fun s S => ?_)
  refine wpAny_Constant_int (tupItem (i := 0) S.tk (List.Mem.tail _ (List.Mem.tail _ (List.Mem.head _))) rfl ?_)
  refine add_str (fun t4 tk => ?_) (by have : (Str.ofString "<").length = 1 := by decide
                                       rw [PySem.sizeLine_eq]; omega)
  have S := S.tk (t := tk)
  refine spliced_none ⟨S.get (List.Mem.tail _ (List.Mem.tail _ (List.Mem.tail _ (List.Mem.tail _ (List.Mem.tail _ (List.Mem.tail _ (List.Mem.tail _ (List.Mem.tail _ (List.Mem.tail _ (List.Mem.tail _ (List.Mem.tail _ (List.Mem.tail _ (List.Mem.head _))))))))))))), bmCallL S (List.Mem.tail _ (List.Mem.tail _ (List.Mem.tail _ (List.Mem.tail _ (List.Mem.tail _ (List.Mem.tail _ (List.Mem.tail _ (List.Mem.tail _ (List.Mem.tail _ (List.Mem.tail _ (List.Mem.tail _ (List.Mem.tail _ (List.Mem.head _))))))))))))) (Up.tail (Up.tail (Up.tail (Up.tail (Up.tail (Up.tail (Up.tail (Up.tail (Up.tail (Up.tail (Up.tail (Up.tail (Up.tail Up.head))))))))))))) (fun s S => ?_) (by show σ.out.length < _; omega)⟩
  refine wpAny_execs_cons (wpAny_If (wpAny_isTrue_value (ldX S (by rfl) (truthy_listS (l := []) S (List.Mem.head _) (by decide) (fun s S => ifF rfl (wpAny_execs_nil ?_))))))
  refine wpAny_execs_cons (wpAny_Expr_any ?_ (by rfl) (by rfl))
  refine wpAny_Call_ofName (ldX S (by rfl) ?_)
  refine callWith_bmS (fs := #[.builtin "list.append", .ref σ.pl]) ?_
  refine spliced_more (wpAny_Constant_str ?_)
  have S := S.tk (t := s.toks + 1)
  refine spliced_none ⟨S.get (List.Mem.tail _ (List.Mem.tail _ (List.Mem.tail _ (List.Mem.tail _ (List.Mem.tail _ (List.Mem.tail _ (List.Mem.tail _ (List.Mem.tail _ (List.Mem.tail _ (List.Mem.tail _ (List.Mem.tail _ (List.Mem.tail _ (List.Mem.head _))))))))))))), bmCallL S (List.Mem.tail _ (List.Mem.tail _ (List.Mem.tail _ (List.Mem.tail _ (List.Mem.tail _ (List.Mem.tail _ (List.Mem.tail _ (List.Mem.tail _ (List.Mem.tail _ (List.Mem.tail _ (List.Mem.tail _ (List.Mem.tail _ (List.Mem.head _))))))))))))) (Up.tail (Up.tail (Up.tail (Up.tail (Up.tail (Up.tail (Up.tail (Up.tail (Up.tail (Up.tail (Up.tail (Up.tail (Up.tail Up.head))))))))))))) (fun s S => ?_) (by show (σ.out ++ [_]).length < _; simp; omega)⟩
  refine wpAny_execs_cons (wpAny_If (wpAny_isTrue_Compare1 (ldX S (v := .none) (by exact eq) (wpAny_Constant_none (wpAny_isNot_plain rfl (wpAny_truthy_bool (ifF rfl (wpAny_execs_nil ?_))))))))
  refine wpAny_execs_cons (plainObj_wpAny_Assign_Attribute (wpAny_Constant_bool (ldCell S rfl (List.Mem.tail _ (List.Mem.tail _ (List.Mem.tail _ (List.Mem.head _)))) d2 ?_)))
  refine setK S C.X (List.Mem.tail _ (List.Mem.tail _ (List.Mem.tail _ (List.Mem.tail _ (List.Mem.tail _ (List.Mem.head _)))))) (fun od' => (Up.tail (Up.tail (Up.tail (Up.tail (Up.tail (Up.tail Up.head))))))) nz (by decide) a.seen (by k_is) (by k_is) (by k_is) (by k_is) (fun od' s nz S => ?_)
  have ho := nz.o
  have a := a.putSeen (seen' := true)
  refine wpAny_execs_cons (wpAny_Expr_any ?_ (by rfl) (by rfl))
  refine methodCall_KW (Attribute_Name_ (ldCell S rfl (List.Mem.tail _ (List.Mem.tail _ (List.Mem.tail _ (List.Mem.head _)))) d2 ?_))
  refine attrS S C.X (List.Mem.tail _ (List.Mem.tail _ (List.Mem.tail _ (List.Mem.tail _ (List.Mem.tail _ (List.Mem.head _)))))) (List.Mem.tail _ (List.Mem.tail _ (List.Mem.tail _ (List.Mem.tail _ (List.Mem.tail _ (List.Mem.tail _ (List.Mem.head _))))))) ho (by k_is) (by k_is) (by k_is) (by k_is) a.nss rfl (fun s S => ?_)
  refine appM S (List.Mem.tail _ (List.Mem.tail _ (List.Mem.tail _ (List.Mem.tail _ (List.Mem.tail _ (List.Mem.tail _ (List.Mem.tail _ (List.Mem.tail _ (List.Mem.tail _ (List.Mem.head _)))))))))) (callWith_method1 ?_ rfl)
  refine spliced_more (List_ (spliced_none (listS S (fun na s S => spliced_none ?_))))
  refine appendL S (Up.tail (Up.tail (Up.tail (Up.tail (Up.tail (Up.tail (Up.tail (Up.tail (Up.tail (Up.tail Up.head)))))))))) (fun s S => ?_) (by simp; omega)
  refine wpAny_execs_nil ?_
  have S := S.drop (.cons_cons _ (.cons _ (.cons _ (.cons _ (.cons _ (.refl _))))))
  have S := W4.begun_st (C := 143) (σ := σ) (r := T' ++ rest) S
  exact k _ T' od' _ na _ _ _ hT' nz a (S.back fc_)
end
end Mine
end
section
open PySem PySem.W PySem.Calls PyProof.Rows
set_option Elab.async false
set_option maxRecDepth 100000
set_option linter.unusedVariables false
namespace Mine
local macro_rules | `(tactic| walk_at "mem") => `(tactic| (repeat (first | assumption | exact List.Mem.head _ | refine List.Mem.tail _ ?_)))
local macro_rules | `(tactic| walk_at "up") => `(tactic| (repeat (first | exact Up.head | refine Up.tail ?_)))
section
variable {w : World} {A : Around} {E : Value → Shared → Prop} {s : Shared} {R : Result → Shared → Prop} {B : Heap} {os : OsState} {G : Array GenState} {L : Addr} {m : Str → Option Value} {rest news W : List Cell} {wc sp : Bool} {x da pl : Addr} {b : Abs}

variable {outer : List Env} {fm : List FMap} {fc : List Cell} {en : Str} {esc : Scope} {ea : Addr} {ecd : Value} {l : List (Str × Tok)}
/-- is the element to be left out? -/
theorem exclTest {σ : W4} {am : Str → Option Value} {seen done : Bool} {ign : Nat} {tag : Str} {t : Tok} {p1 p2 p3 p4 p5 p6 p7 p8 p9 p10 p11 p12 : Pos} {kk : Nat} {qual : Str} {scope : Scope} {f : Addr} {cd : Value} {whole : Sem Value} {Q : Bool → Shared → Prop} (C : Cx (hd.heap_39 w.params) B) (S : St B os G L m news s)
    (i1 : (σ.x, instO 143 σ.dx) ∈ news) (i2 : (σ.dx, σ.od) ∈ news) (i3 : (σ.es, σ.oes) ∈ news) (nz : NsZ 20 σ.od am) (a : Am4 am σ wc sp seen done ign) (es : SetO prog4 w σ.oes (fun k => decide (k = txt "x")) 1)
    (hm : m (Str.ofString "self") = some (.ref σ.x)) (ht : m (Str.ofString "tag") = some (.str tag t)) (hsk : scope.kind = .function) (hl1 : (envOf qual scope L f cd).kindOf (Str.ofString "self") = some .local) (hl2 : (envOf qual scope L f cd).kindOf (Str.ofString "tag") = some .local)
    (h : ∀ s', St B os G L m news s' → Q (decide (ign ≠ 0) || decide (tag = (Str.ofString "x"))) s') :
    wpAny (model prog4 w) A (isTrue (.BoolOp .And [.Compare (.Attribute (.Name (Str.ofString "self") p1) (Str.ofString "_exclude_tags") p2) [.IsNot] [.Constant .none kk p3] p4, .BoolOp .Or [.Attribute (.Name (Str.ofString "self") p5) (Str.ofString "_ignored_depth") p6, .Compare (.Name (Str.ofString "tag") p7) [.In] [.Attribute (.Name (Str.ofString "self") p8) (Str.ofString "_exclude_tags") p9] p10] p11] p12) (envOf qual scope L f cd) whole) Q E s := by
  have ho := nz.o
  obtain ⟨ti, ai⟩ := a.ign
  refine wpAny_isTrue_BoolOp (wpAny_allTrue_And_cons (wpAny_isTrue_Compare1 (Attribute_Name_ (ld S.F hm ?_ hsk hl1))))
  refine attrS S C.X i1 i2 ho (by k_is) (by k_is) (by k_is) (by k_is) a.ext rfl (fun s S => ?_)
  refine wpAny_Constant_none (wpAny_isNot_other rfl (by simp) (wpAny_truthy_bool (ifT rfl ?_)))
  refine wpAny_allTrue_And_cons (wpAny_isTrue_BoolOp (wpAny_allTrue_Or_cons (wpAny_isTrue_value (Attribute_Name_ (ld S.F hm ?_ hsk hl1)))))
  refine attrS S C.X i1 i2 ho (by k_is) (by k_is) (by k_is) (by k_is) ai rfl (fun s S => ?_)
  refine PyProof.Rows.truthy_int ?_
  by_cases hz : ign = 0
  · refine ifF (by rw [hz]; rfl) ?_
    refine wpAny_allTrue_Or_cons (wpAny_isTrue_Compare1 (ld S.F ht (Attribute_Name_ (ld S.F hm ?_ hsk hl1)) hsk hl2))
    refine attrS S C.X i1 i2 ho (by k_is) (by k_is) (by k_is) (by k_is) a.ext rfl (fun s S => ?_)
    refine inS S i3 es (fun s S => wpAny_truthy_bool ?_)
    by_cases hx : tag = (Str.ofString "x")
    · refine ifT (by simp [hx]) (ifT rfl (wpAny_allTrue_And_nil ?_))
      have := h _ S
      simpa [hz, hx] using this
    · refine ifF (by simp [hx]) (wpAny_allTrue_Or_nil (ifF rfl ?_))
      have := h _ S
      simpa [hz, hx] using this
  · refine ifT (by simp; omega) (ifT rfl (wpAny_allTrue_And_nil ?_))
    have := h _ S
    simpa [hz] using this
set_option maxHeartbeats 2000000 in
theorem start_skip {tag : Str} {t : Tok} {v : Value} (C : Cx (hd.heap_39 w.params) B) (hroom : A.depth + 1 < recursionLimit) (S : St B os G L m (W ++ rest) s) (hW : Wr prog4 w 143 wc sp x da pl b W) (hign : b.ign ≠ 0 ∨ tag = (Str.ofString "x"))
    (k : ∀ W' s', Wr prog4 w 143 wc sp x da pl { b with ign := b.ign + 1 } W' → St B os G L m (W' ++ rest) s' → R (.ok (.ret .none)) s') :
    codeAny (model prog4 w) A (.call (.ref 113) ⟨[.ref x, .str tag t, v], []⟩) R s := by
  obtain ⟨σ, rfl, ⟨⟨⟨am, nz, a⟩, es, hps⟩, rfl, rfl, rfl, hda, hou, hde, hns, hnz⟩⟩ := hW
  have ho := nz.o
  obtain ⟨ti, ai⟩ := a.ign
  refine' call_fn (K := hd.heap_39 w.params) (binds := [((Str.ofString "self"), .ref σ.x), ((Str.ofString "tag"), .str tag t), ((Str.ofString "attrs"), v)]) S C.X C.lim ?ho ?hcd ?hroom ?hbind ?hloc (fun L' oL s fc_ S => ?_) ?hco ?hgen ?hk ?hcell
  case ho => k_is
  case hcd => k_is
  case hco => rfl
  case hgen => rfl
  case hk => rfl
  case hcell => decide
  case hroom => first | omega | (simp only [depth_deeper]; omega) | (simp only [depth_deeper, depth_in1]; omega)
  case hbind => exact BindsTo.of_eq rfl
  case hloc => exact locs rfl
  simp only [List.reverse_cons, List.reverse_nil, List.nil_append, List.cons_append] at S
  refine wpAny_execs_cons (wpAny_If (exclTest C S (List.Mem.tail _ (List.Mem.head _)) (List.Mem.tail _ (List.Mem.tail _ (List.Mem.head _))) (List.Mem.tail _ (List.Mem.tail _ (List.Mem.tail _ (List.Mem.tail _ (List.Mem.tail _ (List.Mem.tail _ (List.Mem.tail _ (List.Mem.head _)))))))) nz a es (by rfl) (by rfl) rfl rfl rfl (fun s S => ifT (by simpa using hign) ?_)))
  refine wpAny_execs_cons (wpAny_AugAssign_AttributeAny (ld S.F (by rfl) ?_))
  refine attrS S C.X (by walk_at "mem") (by walk_at "mem") ho (by k_is) (by k_is) (by k_is) (by k_is) ai rfl (fun s S => ?_)
  refine wpAny_Constant_int (PySem.AutoIntOps.iadd_0 ?_)
  refine setK (v := .int ((b.ign + 1 : Nat) : Int) _) S.tk C.X (List.Mem.tail _ (List.Mem.head _)) (fun od' => (Up.tail (Up.tail Up.head))) nz (by decide) ai (by k_is) (by k_is) (by k_is) (by k_is) (fun od' s hz S => ?_)
  refine wpAny_execs_cons (wpAny_Return_none ?_)
  exact k _ _ ⟨{ σ with od := od' }, rfl, ⟨⟨⟨_, hz, a.putIgn.same ⟨rfl, rfl, rfl, rfl, rfl, rfl⟩⟩, es, hps⟩, rfl, rfl, rfl, hda, hou, hde, hns, hnz⟩⟩ (S.back fc_)
theorem W4.decl_st {C : Addr} {σ : W4} {nn : Addr} {r : List Cell} {L' : Addr} (S : St B os G L' m ((nn, listOf #[] 0) ::
    (((σ.x, instO C σ.dx) :: (σ.dx, σ.od) :: (σ.da, listOf σ.data.toArray σ.nd) :: (σ.st, listOf (((σ.lx :: σ.dec).map Value.ref) ++ [Value.ref nn]).toArray (σ.nst + 1)) :: (σ.ns, listOf (σ.nsl.map fun q : Addr × Array Value × Nat => Value.ref q.1).toArray σ.nns) :: (σ.ps, listOf (List.replicate σ.psn (Value.bool false)).toArray σ.nps) ::
    (σ.es, σ.oes) :: (σ.bm, bmO σ.pl) :: (σ.pl, listOf σ.out.toArray σ.npl) :: (σ.lx, listOf #[.ref σ.tp] 0) :: (σ.tp, tupO #[.str xmlUri σ.tx1, .str (txt "xml") σ.tx2]) :: (decC σ.dec ++ nslC σ.nsl)) ++ r)) s) :
    St B os G L' m ({ σ with dec := σ.dec ++ [nn], nst := σ.nst + 1 }.cells C ++ r) s := by
  have e : { σ with dec := σ.dec ++ [nn], nst := σ.nst + 1 }.cells C ++ r =
    ((σ.x, instO C σ.dx) :: (σ.dx, σ.od) :: (σ.da, listOf σ.data.toArray σ.nd) :: (σ.st, listOf (((σ.lx :: σ.dec).map Value.ref) ++ [Value.ref nn]).toArray (σ.nst + 1)) :: (σ.ns, listOf (σ.nsl.map fun q : Addr × Array Value × Nat => Value.ref q.1).toArray σ.nns) :: (σ.ps, listOf (List.replicate σ.psn (Value.bool false)).toArray σ.nps) ::
    (σ.es, σ.oes) :: (σ.bm, bmO σ.pl) :: (σ.pl, listOf σ.out.toArray σ.npl) :: (σ.lx, listOf #[.ref σ.tp] 0) :: (σ.tp, tupO #[.str xmlUri σ.tx1, .str (txt "xml") σ.tx2]) :: decC σ.dec) ++ ((nn, listOf #[] 0) :: (nslC σ.nsl ++ r)) := by
    simp [W4.cells, nslC, decC]
  rw [e]
  have S' := S.as (news' := (nn, listOf #[] 0) :: (((σ.x, instO C σ.dx) :: (σ.dx, σ.od) :: (σ.da, listOf σ.data.toArray σ.nd) :: (σ.st, listOf (((σ.lx :: σ.dec).map Value.ref) ++ [Value.ref nn]).toArray (σ.nst + 1)) :: (σ.ns, listOf (σ.nsl.map fun q : Addr × Array Value × Nat => Value.ref q.1).toArray σ.nns) :: (σ.ps, listOf (List.replicate σ.psn (Value.bool false)).toArray σ.nps) ::
    (σ.es, σ.oes) :: (σ.bm, bmO σ.pl) :: (σ.pl, listOf σ.out.toArray σ.npl) :: (σ.lx, listOf #[.ref σ.tp] 0) :: (σ.tp, tupO #[.str xmlUri σ.tx1, .str (txt "xml") σ.tx2]) :: decC σ.dec) ++ (nslC σ.nsl ++ r))) (by simp)
  exact S'.perm List.perm_middle.symm
set_option maxHeartbeats 4000000 in
theorem start_good {tag : Str} {t : Tok} {D : Addr} {ep : Nat} {T : List Cell} (H : Lam B 118 116) (hts : tag.length ≤ 1000) (htag : (tag.cps.toList.take 1 == (Str.ofString "{").cps.toList) = false) (hx : tag ≠ (Str.ofString "x")) (C : Cx (hd.heap_39 w.params) B) (hroom : A.depth + 6 < recursionLimit) (hh : A.handled = none) (S : St B os G L m (W ++ (T ++ rest)) s) (hT : Tb w T) (hW : Wr prog4 w 143 wc sp x da pl b W) (hign : b.ign = 0) (hdat : b.data = strValues l) (hseen : b.seen = true ∨ b.data = [])
    (hD : (D, dictO #[] ep) ∈ rest) (hDm : (D == sysModules) = false) (hdep : b.dep < 900) (hln : l.length < 300) (hl : ∀ p ∈ l, p.1.length ≤ 3) (hout : b.out.length < 900)
    (k : ∀ G' W' T' s', Tb w T' → Wr prog4 w 143 wc sp x da pl { b with data := [], out := b.out ++ flOut sp l ++ [(Str.ofString "<") ++ tag, (Str.ofString ">")], dep := b.dep + 1, seen := true } W' → St B os G' L m (W' ++ (T' ++ rest)) s' → R (.ok (.ret .none)) s') :
    codeAny (model prog4 w) A (.call (.ref 113) ⟨[.ref x, .str tag t, .ref D], []⟩) R s := by
  obtain ⟨σ, hc, hi⟩ := id hW
  obtain ⟨⟨⟨am, nz, a⟩, es, hps⟩, e1, e2, e3, hda, hou, hde, hns, hnz⟩ := hi
  have ho := nz.o
  refine' call_fn (K := hd.heap_39 w.params) (binds := [((Str.ofString "self"), .ref x), ((Str.ofString "tag"), .str tag t), ((Str.ofString "attrs"), .ref D)]) S C.X C.lim ?ho ?hcd ?hroom ?hbind ?hloc (fun L' oL s fc_ S => ?_) ?hco ?hgen ?hk ?hcell
  case ho => k_is
  case hcd => k_is
  case hco => rfl
  case hgen => rfl
  case hk => rfl
  case hcell => decide
  case hroom => first | omega | (simp only [depth_deeper]; omega) | (simp only [depth_deeper, depth_in1]; omega)
  case hbind => exact BindsTo.of_eq rfl
  case hloc => exact locs rfl
  simp only [List.reverse_cons, List.reverse_nil, List.nil_append, List.cons_append] at S
  have S := S.sink
  rw [hc] at S
  refine wpAny_execs_cons (wpAny_If (exclTest (σ := σ) C S (List.Mem.head _) (List.Mem.tail _ (List.Mem.head _)) (List.Mem.tail _ (List.Mem.tail _ (List.Mem.tail _ (List.Mem.tail _ (List.Mem.tail _ (List.Mem.tail _ (List.Mem.head _))))))) nz a es (by rw [e1]; rfl) (by rfl) rfl rfl rfl (fun s S => ifF (by simp [hign, hx]) (wpAny_execs_nil ?_))))
  rw [← hc] at S
  refine wpAny_execs_cons (flushIf (rest := (L, oL) :: (T ++ rest)) C (by first | omega | (simp only [depth_deeper]; omega)) hh S hW hdat hseen hln hl (by omega) (by rfl) rfl rfl rfl (fun W' s hW' S => ?_))
  clear hnz hns hde hou hda e3 e2 e1 hps es a ho nz hc
  obtain ⟨τ, hc, ⟨⟨⟨am, nz, a⟩, es, hps⟩, e1, e2, e3, hda, hou, hde, hns, hnz⟩⟩ := hW'
  subst hc e1 e2 e3
  have ho := nz.o
  simp only at hda hou hde hns hnz
  refine wpAny_execs_cons (wpAny_Assign_Name (List_ (spliced_none (listS S (fun nn s S => stS S (fun s S => ?_))))))
  refine wpAny_execs_cons (wpAny_Expr_any ?_ (by rfl) (by rfl))
  refine methodCall_KW (Attribute_Name_ (ld S.F (by rfl) ?_))
  refine attrS S C.X (List.Mem.tail _ (List.Mem.head _)) (List.Mem.tail _ (List.Mem.tail _ (List.Mem.head _))) ho (by k_is) (by k_is) (by k_is) (by k_is) a.dst rfl (fun s S => ?_)
  refine appM S (List.Mem.tail _ (List.Mem.tail _ (List.Mem.tail _ (List.Mem.tail _ (List.Mem.head _))))) (callWith_method1 ?_ rfl)
  refine spliced_more (ld S.F (by rfl) (spliced_none ?_))
  refine appendL S (Up.tail (Up.tail (Up.tail (Up.tail Up.head)))) (fun s S => ?_) (by simp; omega)
  have S := W4.decl_st (C := 143) (σ := τ) (r := (L, oL) :: (T ++ rest)) S
  refine wpAny_execs_cons (wpAny_If (wpAny_isTrue_BoolOp (wpAny_allTrue_And_cons (wpAny_isTrue_Compare1 (Attribute_Name_ (ld S.F (by rfl) ?_))))))
  refine attrS S C.X (List.Mem.head _) (List.Mem.tail _ (List.Mem.head _)) ho (by k_is) (by k_is) (by k_is) (by k_is) a.qat rfl (fun s S => ?_)
  refine wpAny_Constant_none (wpAny_isNot_plain rfl (wpAny_truthy_bool (ifF rfl (ifF rfl (wpAny_execs_nil ?_)))))
  refine wpAny_execs_cons (wpAny_Expr_any ?_ (by rfl) (by rfl))
  refine methodCall_KW (ld S.F (by rfl) ?_)
  refine methS S C.X (List.Mem.head _) (List.Mem.tail _ (List.Mem.head _)) ho (by k_is) (by k_is) (by k_is) a.m4 ?_
  refine callWith_K (K := hd.heap_39 w.params) C.X (by k_is) ?_
  refine spliced_more (ld S.F (by rfl) ?_)
  refine spliced_more (ld S.F (by rfl) ?_)
  refine spliced_more (ld S.F (by rfl) ?_)
  refine spliced_none ⟨S.X C.X, wpAny_call ?_⟩
  have a' : Am4 am { τ with dec := τ.dec ++ [nn], nst := τ.nst + 1 } wc sp b.seen b.done b.ign := a.same ⟨rfl, rfl, rfl, rfl, rfl, rfl⟩
  have hou' : τ.out.length ≤ b.out.length + 1 := by
    rw [hou.length, List.length_append]
    have : (flOut sp l).length ≤ 1 := by unfold flOut; split <;> simp
    omega
  have S : St B os G L' _ ({ τ with dec := τ.dec ++ [nn], nst := τ.nst + 1 }.cells 143 ++ (T ++ ((L, oL) :: rest))) s := S.perm (List.Perm.append_left _ List.perm_middle.symm)
  refine start_in (σ := { τ with dec := τ.dec ++ [nn], nst := τ.nst + 1 }) (rest := (L, oL) :: rest) (pp := τ.dec.length) H hts htag C (by first | omega | (simp only [depth_deeper]; omega)) hh S hT nz a' (.tail _ hD) hDm ?_ hps (by omega) (by show τ.out.length < _; omega) (by show τ.nsl.length < _; omega) (fun G' T' od' am' na t1 t2 s hT' nz a S => ?_)
  · simp [W4.cells, decC]
  refine wpAny_execs_nil ?_
  have S := S.perm (List.Perm.append_left _ (List.perm_middle (l₁ := T')))
  have S := S.rise
  refine k G' _ T' _ hT' ⟨{ τ with dec := τ.dec ++ [nn], nst := τ.nst + 1 }.begun od' na tag t1 t2, rfl, ⟨⟨⟨am', nz, a.same ⟨rfl, rfl, rfl, rfl, rfl, rfl⟩⟩, es, ?_⟩, rfl, rfl, rfl, hda, ?_, ?_, ?_, ?_⟩⟩ (S.back fc_)
  · show τ.psn + 1 = (τ.dec ++ [nn]).length + 1
    rw [hps]; simp
  · show OutIs (τ.out ++ [_, _]) (b.out ++ flOut sp l ++ [_, _])
    have h1 := (hou.snoc ((Str.ofString "<") ++ tag) t1).snoc (Str.ofString ">") t2
    simpa using h1
  · show (τ.dec ++ [nn]).length = b.dep + 1
    simp [hde]
  · show (τ.nsl ++ [_]).length = b.dep + 1 + 2
    simp [hns]
  · intro q hq
    rcases List.mem_append.mp hq with h | h
    · exact hnz q h
    · rw [List.mem_singleton.mp h]
      exact Nat.zero_le _
set_option maxHeartbeats 2000000 in
theorem start_bad {tag : Str} {t : Tok} {v : Value} (hx : tag ≠ (Str.ofString "x")) (C : Cx (hd.heap_39 w.params) B) (hroom : A.depth + 4 < recursionLimit) (hh : A.handled = none) (hfr : A.frames = some (envOf en esc L ea ecd :: outer)) (hek : esc.kind = .function) (FF : OutF B outer fm fc) (S : St B os G L m (fc ++ rest) s)
    (hW : Wr prog4 w 143 wc sp x da pl b W) (hWr : ∀ p ∈ W, p ∈ rest) (sb : Spoilt b rest) (hign : b.ign = 0)
    (k : ∀ e s', Fly B os G (envOf en esc L ea ecd :: outer) ((L, m) :: fm) rest e s' → R (.error (.ref e)) s') :
    codeAny (model prog4 w) A (.call (.ref 113) ⟨[.ref x, .str tag t, v], []⟩) R s := by
  obtain ⟨σ, hc, hi⟩ := id hW
  obtain ⟨⟨⟨am, nz, a⟩, es, hps⟩, e1, e2, e3, hda, hou, hde, hns, hnz⟩ := hi
  subst hc e1 e2 e3
  have ho := nz.o
  have i1 := hWr _ (List.Mem.head _)
  have i2 := hWr _ (List.Mem.tail _ (List.Mem.head _))
  have i3 := hWr _ (List.Mem.tail _ (List.Mem.tail _ (List.Mem.tail _ (List.Mem.tail _ (List.Mem.tail _ (List.Mem.tail _ (List.Mem.head _)))))))
  refine' call_fn (K := hd.heap_39 w.params) (binds := [((Str.ofString "self"), .ref σ.x), ((Str.ofString "tag"), .str tag t), ((Str.ofString "attrs"), v)]) S C.X C.lim ?ho ?hcd ?hroom ?hbind ?hloc (fun L' oL s fc_ S => ?_) ?hco ?hgen ?hk ?hcell
  case ho => k_is
  case hcd => k_is
  case hco => rfl
  case hgen => rfl
  case hk => rfl
  case hcell => decide
  case hroom => first | omega | (simp only [depth_deeper]; omega) | (simp only [depth_deeper, depth_in1]; omega)
  case hbind => exact BindsTo.of_eq rfl
  case hloc => exact locs rfl
  simp only [List.reverse_cons, List.reverse_nil, List.nil_append, List.cons_append] at S
  have up : ∀ p ∈ rest, p ∈ (L, oL) :: (fc ++ rest) := fun p hp => .tail _ (List.mem_append.mpr (.inr hp))
  refine wpAny_execs_cons (wpAny_If (exclTest (σ := σ) C S (up _ i1) (up _ i2) (up _ i3) nz a es (by rfl) (by rfl) rfl rfl rfl (fun s S => ifF (by simp [hign, hx]) (wpAny_execs_nil ?_))))
  exact wpAny_execs_cons (flushIf_bad (fc := (L, oL) :: fc) C (by first | omega | (simp only [depth_deeper]; omega)) hh (Around.frames_deeper hfr) (FF.cons fc_ hek) S hW hWr sb (by rfl) rfl rfl rfl (fun e s' F => leave_on hfr F (fun s' F => k e s' F)))
end
end Mine
end
section
open PySem PySem.W PySem.Calls PyProof.Rows
set_option Elab.async false
set_option maxRecDepth 100000
set_option linter.unusedVariables false
namespace Mine
local macro_rules | `(tactic| walk_at "mem") => `(tactic| (repeat (first | assumption | exact List.Mem.head _ | refine List.Mem.tail _ ?_)))
local macro_rules | `(tactic| walk_at "up") => `(tactic| (repeat (first | exact Up.head | refine Up.tail ?_)))
def dtxt (vs : List Value) : List (Str × Tok) := vs.filterMap fun v => match v with | .str x t => some (x, t) | _ => none
theorem dtxt_str (l : List (Str × Tok)) : dtxt (strValues l) = l := by
  induction l with
  | nil => rfl
  | cons p r ih =>
    show dtxt (.str p.1 p.2 :: strValues r) = _
    unfold dtxt at ih ⊢
    rw [List.filterMap_cons]
    simp [ih]
/-- what a call that is not refused does to a writer -/
def tell (wc sp : Bool) (b : Abs) : Nat → Str → Abs
  | 0, y => if b.ign ≠ 0 ∨ y = (Str.ofString "x") then { b with ign := b.ign + 1 } else { b with data := [], out := b.out ++ flOut sp (dtxt b.data) ++ [(Str.ofString "<") ++ y, (Str.ofString ">")], dep := b.dep + 1, seen := true }
  | 1, y => if b.ign ≠ 0 then { b with ign := b.ign - 1 } else { b with data := [], out := b.out ++ flOut sp (dtxt b.data) ++ [endT y], dep := b.dep - 1, done := decide (b.dep - 1 = 0) }
  | 3, y => if wc = false ∨ b.ign ≠ 0 then b else if b.done = true then { b with out := b.out ++ [(Str.ofString "\n")] ++ [comT y] } else { b with data := [], out := b.out ++ flOut sp (dtxt b.data) ++ [comT y] }
  | 4, y => if b.ign ≠ 0 then b else if b.done = true then { b with out := b.out ++ [(Str.ofString "\n")] ++ [piT (Str.ofString "i") y] } else { b with data := [], out := b.out ++ flOut sp (dtxt b.data) ++ [piT (Str.ofString "i") y] }
  | _, y => if b.ign ≠ 0 then b else { b with data := [], out := b.out ++ flOut sp (dtxt b.data), nsm := b.nsm + 1 }
/-- a call that asks for no flush -/
def Quiet (wc : Bool) (b : Abs) (kd : Nat) (y : Str) : Prop := b.ign ≠ 0 ∨ (kd = 0 ∧ y = (Str.ofString "x")) ∨ (kd = 3 ∧ wc = false) ∨ (b.done = true ∧ (kd = 3 ∨ kd = 4))
def PlainY (y : Str) : Prop := y ∈ [(Str.ofString "r"), (Str.ofString "a"), (Str.ofString "b"), (Str.ofString "x"), (Str.ofString "c"), (Str.ofString "z")]
theorem PlainY.len {y : Str} (h : PlainY y) : y.length ≤ 1000 := by
  unfold PlainY at h
  simp only [List.mem_cons, List.not_mem_nil, or_false] at h
  rcases h with rfl | rfl | rfl | rfl | rfl | rfl <;> decide
theorem PlainY.tag {y : Str} (h : PlainY y) : (y.cps.toList.take 1 == (Str.ofString "{").cps.toList) = false := by
  unfold PlainY at h
  simp only [List.mem_cons, List.not_mem_nil, or_false] at h
  rcases h with rfl | rfl | rfl | rfl | rfl | rfl <;> decide
theorem PlainY.ne {y : Str} (h : PlainY y) : y ≠ (Str.ofString "") := by
  unfold PlainY at h
  simp only [List.mem_cons, List.not_mem_nil, or_false] at h
  rcases h with rfl | rfl | rfl | rfl | rfl | rfl <;> decide
structure Can (wc : Bool) (b : Abs) (kd : Nat) (y : Str) : Prop where
  dat : Quiet wc b kd y ∨ ∃ l : List (Str × Tok), b.data = strValues l ∧ l.length < 300 ∧ ∀ p ∈ l, p.1.length ≤ 3
  seen : kd ≠ 0 → b.seen = true
  seen0 : b.seen = true ∨ b.data = []
  dep : kd = 1 → b.ign = 0 → 1 ≤ b.dep
  done5 : b.done = true → b.ign ≠ 0 ∨ kd = 3 ∨ kd = 4
  out : b.out.length < 890
  nsm : b.nsm < 890
  depl : b.dep < 890
  py : PlainY y
section
variable {w : World} {A : Around} {E : Value → Shared → Prop} {s : Shared} {R : Result → Shared → Prop} {B : Heap} {os : OsState} {G : Array GenState} {L : Addr} {m : Str → Option Value} {rest news W T : List Cell} {wc sp : Bool} {x da pl : Addr} {b : Abs}

variable {outer : List Env} {fm : List FMap} {fc : List Cell} {en : Str} {esc : Scope} {ea : Addr} {ecd : Value} {l : List (Str × Tok)} {y : Str} {t : Tok}
theorem m0_good {D : Addr} {ep : Nat} (H : Lam B 118 116) (C : Cx (hd.heap_39 w.params) B) (hroom : A.depth + 6 < recursionLimit) (hh : A.handled = none) (S : St B os G L m (W ++ (T ++ rest)) s) (hT : Tb w T) (hW : Wr prog4 w 143 wc sp x da pl b W) (hD : (D, dictO #[] ep) ∈ rest) (hDm : (D == sysModules) = false) (c : Can wc b 0 y)
    (k : ∀ G' W' T' s', Tb w T' → Wr prog4 w 143 wc sp x da pl (tell wc sp b 0 y) W' → St B os G' L m (W' ++ (T' ++ rest)) s' → R (.ok (.ret .none)) s') :
    codeAny (model prog4 w) A (.call (.ref 113) ⟨[.ref x, .str y t, .ref D], []⟩) R s := by
  by_cases hq : b.ign ≠ 0 ∨ y = (Str.ofString "x")
  · refine start_skip C (by omega) S hW hq (fun W' s' hW' S' => k G W' T s' hT ?_ S')
    rw [tell, if_pos hq]; exact hW'
  · have hi : b.ign = 0 := Decidable.byContradiction fun h => hq (.inl h)
    have hx : y ≠ (Str.ofString "x") := fun h => hq (.inr h)
    have hnd : b.done = false := by
      cases q : b.done with
      | false => rfl
      | true => rcases c.done5 q with h | h | h
                · exact absurd hi h
                · cases h
                · cases h
    obtain ⟨l, e, h1, h2⟩ := c.dat.resolve_left (by
      rintro (h | ⟨_, h⟩ | ⟨h, _⟩ | ⟨_, h | h⟩)
      · exact h hi
      · exact hx h
      · cases h
      · cases h
      · cases h)
    refine start_good H c.py.len c.py.tag hx C hroom hh S hT hW hi e c.seen0 hD hDm (Nat.lt_trans c.depl (by decide)) h1 h2 (Nat.lt_trans c.out (by decide)) (fun G' W' T' s' hT' hW' S' => k G' W' T' s' hT' ?_ S')
    rw [tell, if_neg hq, e, dtxt_str]; exact hW'
theorem m1_good (C : Cx (hd.heap_39 w.params) B) (hroom : A.depth + 6 < recursionLimit) (hh : A.handled = none) (S : St B os G L m (W ++ rest) s) (hW : Wr prog4 w 143 wc sp x da pl b W) (c : Can wc b 1 y)
    (k : ∀ G' W' s', Wr prog4 w 143 wc sp x da pl (tell wc sp b 1 y) W' → St B os G' L m (W' ++ rest) s' → R (.ok (.ret .none)) s') :
    codeAny (model prog4 w) A (.call (.ref 126) ⟨[.ref x, .str y t], []⟩) R s := by
  by_cases hq : b.ign ≠ 0
  · refine end_skip (i := b.ign - 1) C (by omega) S hW (by omega) (fun W' s' hW' S' => k G W' s' ?_ S')
    rw [tell, if_pos hq]; exact hW'
  · have hi : b.ign = 0 := Decidable.byContradiction fun h => hq h
    obtain ⟨l, e, h1, h2⟩ := c.dat.resolve_left (by
      rintro (h | ⟨h, _⟩ | ⟨h, _⟩ | ⟨_, h | h⟩)
      · exact h hi
      · cases h
      · cases h
      · cases h
      · cases h)
    have hd1 := c.dep rfl hi
    have := c.depl
    refine end_good (d := b.dep - 1) c.py.len c.py.tag C (by omega) hh S hW hi e (c.seen (by decide)) (by omega) (by omega) h1 h2 (Nat.lt_trans c.out (by decide)) (fun G' W' s' hW' S' => k G' W' s' ?_ S')
    rw [tell, if_neg hq, e, dtxt_str]; exact hW'
theorem m3_good (C : Cx (hd.heap_39 w.params) B) (hroom : A.depth + 6 < recursionLimit) (hh : A.handled = none) (S : St B os G L m (W ++ rest) s) (hW : Wr prog4 w 143 wc sp x da pl b W) (c : Can wc b 3 y)
    (k : ∀ W' s', Wr prog4 w 143 wc sp x da pl (tell wc sp b 3 y) W' → St B os G L m (W' ++ rest) s' → R (.ok (.ret .none)) s') :
    codeAny (model prog4 w) A (.call (.ref 133) ⟨[.ref x, .str y t], []⟩) R s := by
  by_cases hq : wc = false ∨ b.ign ≠ 0
  · refine com_skip C (by omega) S hW hq (fun s' S' => k W s' ?_ S')
    rw [tell, if_pos hq]; exact hW
  · have hi : b.ign = 0 := Decidable.byContradiction fun h => hq (.inr h)
    have hwc : wc = true := by cases wc with | true => rfl | false => exact absurd (.inl rfl) hq
    subst hwc
    by_cases hdn : b.done = true
    · refine com_done C (by omega) hh S hW hi hdn (c.seen (by decide)) (Nat.lt_trans c.out (by decide)) c.py.len (fun W' s' hW' S' => k W' s' ?_ S')
      rw [tell, if_neg hq, if_pos hdn]; exact hW'
    · obtain ⟨l, e, h1, h2⟩ := c.dat.resolve_left (by
        rintro (h | ⟨h, _⟩ | ⟨_, h⟩ | ⟨h, _⟩)
        · exact h hi
        · cases h
        · cases h
        · exact hdn h)
      refine com_good C (by omega) hh S hW hi (by simpa using hdn) e (c.seen (by decide)) h1 h2 (Nat.lt_trans c.out (by decide)) c.py.len (fun W' s' hW' S' => k W' s' ?_ S')
      rw [tell, if_neg hq, if_neg hdn, e, dtxt_str]; exact hW'
theorem m4_good {t0 : Tok} (C : Cx (hd.heap_39 w.params) B) (hroom : A.depth + 6 < recursionLimit) (hh : A.handled = none) (S : St B os G L m (W ++ rest) s) (hW : Wr prog4 w 143 wc sp x da pl b W) (c : Can wc b 4 y)
    (k : ∀ W' s', Wr prog4 w 143 wc sp x da pl (tell wc sp b 4 y) W' → St B os G L m (W' ++ rest) s' → R (.ok (.ret .none)) s') :
    codeAny (model prog4 w) A (.call (.ref 140) ⟨[.ref x, .str (Str.ofString "i") t0, .str y t], []⟩) R s := by
  by_cases hq : b.ign ≠ 0
  · refine pi_skip C (by omega) S hW hq (fun s' S' => k W s' ?_ S')
    rw [tell, if_pos hq]; exact hW
  · have hi : b.ign = 0 := Decidable.byContradiction fun h => hq h
    by_cases hdn : b.done = true
    · refine pi_done C (by omega) hh S hW hi hdn (c.seen (by decide)) (Nat.lt_trans c.out (by decide)) (by decide) c.py.len c.py.ne (fun W' s' hW' S' => k W' s' ?_ S')
      rw [tell, if_neg hq, if_pos hdn]; exact hW'
    · obtain ⟨l, e, h1, h2⟩ := c.dat.resolve_left (by
        rintro (h | ⟨h, _⟩ | ⟨h, _⟩ | ⟨h, _⟩)
        · exact h hi
        · cases h
        · cases h
        · exact hdn h)
      refine pi_good C (by omega) hh S hW hi (by simpa using hdn) e (c.seen (by decide)) h1 h2 (Nat.lt_trans c.out (by decide)) (by decide) c.py.len c.py.ne (fun W' s' hW' S' => k W' s' ?_ S')
      rw [tell, if_neg hq, if_neg hdn, e, dtxt_str]; exact hW'
theorem m5_good {v : Value} (C : Cx (hd.heap_39 w.params) B) (hroom : A.depth + 6 < recursionLimit) (hh : A.handled = none) (S : St B os G L m (W ++ rest) s) (hW : Wr prog4 w 143 wc sp x da pl b W) (c : Can wc b 5 y)
    (k : ∀ W' s', Wr prog4 w 143 wc sp x da pl (tell wc sp b 5 y) W' → St B os G L m (W' ++ rest) s' → R (.ok (.ret .none)) s') :
    codeAny (model prog4 w) A (.call (.ref 106) ⟨[.ref x, v, .str y t], []⟩) R s := by
  by_cases hq : b.ign ≠ 0
  · refine sns_skip C (by omega) S hW hq (fun s' S' => k W s' ?_ S')
    rw [tell, if_pos hq]
    · exact hW
    all_goals decide
  · have hi : b.ign = 0 := Decidable.byContradiction fun h => hq h
    obtain ⟨l, e, h1, h2⟩ := c.dat.resolve_left (by
      rintro (h | ⟨h, _⟩ | ⟨h, _⟩ | ⟨_, h | h⟩)
      · exact h hi
      · cases h
      · cases h
      · cases h
      · cases h)
    refine sns_good C (by omega) hh S hW hi e (.inl (c.seen (by decide))) h1 h2 (Nat.lt_trans c.out (by decide)) (Nat.lt_trans c.nsm (by decide)) (fun W' s' hW' S' => k W' s' ?_ S')
    rw [tell, if_neg hq, e, dtxt_str]
    · exact hW'
    all_goals decide
end
end Mine
end
section
open PySem PySem.W PySem.Calls PyProof.Rows
set_option Elab.async false
set_option maxRecDepth 100000
set_option linter.unusedVariables false
namespace Mine
local macro_rules | `(tactic| walk_at "mem") => `(tactic| (repeat (first | assumption | exact List.Mem.head _ | refine List.Mem.tail _ ?_)))
local macro_rules | `(tactic| walk_at "up") => `(tactic| (repeat (first | exact Up.head | refine Up.tail ?_)))
section
variable {w : World} {A : Around} {E : Value → Shared → Prop} {s : Shared} {R : Result → Shared → Prop} {B : Heap} {os : OsState} {G : Array GenState} {L : Addr} {m : Str → Option Value} {rest news W T : List Cell} {wc sp : Bool} {x da pl : Addr} {b : Abs}

variable {outer : List Env} {fm : List FMap} {fc : List Cell} {en : Str} {esc : Scope} {ea : Addr} {ecd : Value} {l : List (Str × Tok)} {y : Str} {t : Tok}
/-- a test of a name's int against a written one -/
theorem testS {k n : Int} {t : Tok} {nm : Str} {p1 p2 p3 p4 : Pos} {c : Nat} {bd oe : List Stmt} {qual : Str} {scope : Scope} {f : Addr} {cd : Value} {Q : Flow → Shared → Prop} (S : St B os G L m news s) (hm : m nm = some (.int k t)) (hsk : scope.kind = .function) (hl : (envOf qual scope L f cd).kindOf nm = some .local) (hd : (nm == ("__debug__" : Str)) = false)
    (h : ∀ s', St B os G L m news s' → wpAny (model prog4 w) A (execs (if (k == n) = true then bd else oe) (envOf qual scope L f cd)) Q E s') :
    wpAny (model prog4 w) A (exec (.If (.Compare (.Name nm p1) [.Eq] [.Constant (.int n) c p2] p3) bd oe p4) (envOf qual scope L f cd)) Q E s := by
  refine wpAny_If (wpAny_isTrue_Compare1 (ld S.F hm (wpAny_Constant_int (PySem.P.eq_int (wpAny_truthy_bool ?_))) hsk hl hd))
  have := h _ (S.tk (t := s.toks + 1))
  cases q : (k == n) with
  | true => rw [q, if_pos rfl] at this; rw [if_pos rfl]; exact this
  | false => rw [q, if_neg (by decide)] at this; rw [if_neg (by decide)]; exact this
theorem methWr {name : Str} {f : Addr} {pl' : Sem Bool} {Q : Value × List Value → Shared → Prop} (C : Cx (hd.heap_39 w.params) B) (S : St B os G L m news s) (hW : Wr prog4 w 143 wc sp x da pl b W) (hWr : ∀ p ∈ W, p ∈ news) (hn : ∀ {am σ seen done ign}, Am4 am σ wc sp seen done ign → am name = none)
    (hg : plainGet (hd.heap_39 w.params) 143 name = true) (hf : findIn (hd.heap_39 w.params) (.ref 143) name = some (some (.ref f))) (ht : isFn (hd.heap_39 w.params) (.ref f) = true) (h : Q (.ref f, [.ref x]) s) : wpAny (model prog4 w) A (getMethod (.ref x) name pl') Q E s := by
  obtain ⟨σ, rfl, ⟨⟨⟨am, nz, a⟩, es, hps⟩, rfl, rfl, rfl, hda, hou, hde, hns, hnz⟩⟩ := hW
  exact methS S C.X (hWr _ (List.Mem.head _)) (hWr _ (List.Mem.tail _ (List.Mem.head _))) nz.o hg hf ht (hn a) h
set_option maxHeartbeats 4000000 in
theorem tell_good {ct : Addr} {kd : Nat} {t0 t : Tok} (H : Lam B 118 116) (C : Cx (hd.heap_39 w.params) B) (hroom : A.depth + 8 < recursionLimit) (hh : A.handled = none) (S : St B os G L m (W ++ (T ++ rest)) s) (hT : Tb w T) (hW : Wr prog4 w 143 wc sp x da pl b W) (hct : (ct, tupO #[.int kd t0, .str y t]) ∈ rest) (hk : kd ∈ [0, 1, 3, 4, 5]) (c : Can wc b kd y)
    (k : ∀ G' W' T' s', Tb w T' → Wr prog4 w 143 wc sp x da pl (tell wc sp b kd y) W' → St B os G' L m (W' ++ (T' ++ rest)) s' → R (.ok (.ret .none)) s') :
    codeAny (model prog4 w) A (.call (.ref 175) ⟨[.ref x, .ref ct], []⟩) R s := by
  refine' call_fn (K := hd.heap_39 w.params) (binds := [((Str.ofString "target"), .ref x), ((Str.ofString "call"), .ref ct)]) S C.X C.lim ?ho ?hcd ?hroom ?hbind ?hloc (fun L' oL s fc_ S => ?_) ?hco ?hgen ?hk ?hcell
  case ho => k_is
  case hcd => k_is
  case hco => rfl
  case hgen => rfl
  case hk => rfl
  case hcell => decide
  case hroom => first | omega | (simp only [depth_deeper]; omega) | (simp only [depth_deeper, depth_in1]; omega)
  case hbind => exact BindsTo.of_eq rfl
  case hloc => exact locs rfl
  simp only [List.reverse_cons, List.reverse_nil, List.nil_append, List.cons_append] at S
  have S : St B os G L' _ (W ++ (T ++ ((L, oL) :: rest))) s := S.sink.perm (List.Perm.append_left _ List.perm_middle.symm)
  have back : ∀ {G' W' T' m' s'}, St B os G' L' m' (W' ++ (T' ++ ((L, oL) :: rest))) s' → St B os G' L m (W' ++ (T' ++ rest)) s' := fun {G' W' T' m' s'} S =>
    St.back (St.rise (S.perm (List.Perm.append_left _ List.perm_middle))) fc_
  have upW : ∀ p ∈ W, p ∈ W ++ (T ++ ((L, oL) :: rest)) := fun p hp => List.mem_append.mpr (.inl hp)
  have ict : (ct, tupO #[.int kd t0, .str y t]) ∈ W ++ (T ++ ((L, oL) :: rest)) := List.mem_append.mpr (.inr (List.mem_append.mpr (.inr (.tail _ hct))))
  refine wpAny_execs_cons (Assign_Tuple (ld S.F (by rfl) (unpack2S S hh ict (fun s S => ?_))))
  clear ict
  simp only [List.mem_cons, List.not_mem_nil, or_false] at hk
  rcases hk with rfl | rfl | rfl | rfl | rfl
  · refine wpAny_execs_cons (testS S (by rfl) rfl rfl rfl (fun s S => ?_))
    refine wpAny_execs_cons (wpAny_Expr_any ?_ (by rfl) (by rfl))
    refine methodCall_KW (ld S.F (by rfl) (methWr C S hW upW (fun a => a.m5) (by k_is) (by k_is) (by k_is) ?_))
    refine callWith_K (K := hd.heap_39 w.params) C.X (by k_is) ?_
    refine spliced_more (ld S.F (by rfl) (spliced_more (dict0S S C.lim (fun D s hDm S => ?_))))
    refine spliced_none ⟨S.X C.X, wpAny_call ?_⟩
    have S : St B os G L' _ (W ++ (T ++ ((D, dictO #[] 0) :: (L, oL) :: rest))) s := S.sink.perm (List.Perm.append_left _ List.perm_middle.symm)
    refine m0_good (rest := (D, dictO #[] 0) :: (L, oL) :: rest) H C (by first | omega | (simp only [depth_deeper]; omega)) hh S hT hW (.head _) hDm c (fun G' W' T' s' hT' hW' S => ?_)
    exact wpAny_execs_nil (wpAny_execs_nil (k G' W' T' s' hT' hW' (back (S.drop (List.Sublist.append_left (List.Sublist.append_left (List.sublist_cons_self _ _) _) _)))))
  · refine wpAny_execs_cons (testS S (by rfl) rfl rfl rfl (fun s S => ?_))
    refine wpAny_execs_cons (testS S (by rfl) rfl rfl rfl (fun s S => ?_))
    refine wpAny_execs_cons (wpAny_Expr_any ?_ (by rfl) (by rfl))
    refine methodCall_KW (ld S.F (by rfl) (methWr C S hW upW (fun a => a.m6) (by k_is) (by k_is) (by k_is) ?_))
    refine callWith_K (K := hd.heap_39 w.params) C.X (by k_is) ?_
    refine spliced_more (ld S.F (by rfl) (spliced_none ⟨S.X C.X, wpAny_call ?_⟩))
    refine m1_good C (by first | omega | (simp only [depth_deeper]; omega)) hh S hW c (fun G' W' s' hW' S => ?_)
    exact wpAny_execs_nil (wpAny_execs_nil (wpAny_execs_nil (k G' W' T s' hT hW' (back S))))
  · refine wpAny_execs_cons (testS S (by rfl) rfl rfl rfl (fun s S => ?_))
    refine wpAny_execs_cons (testS S (by rfl) rfl rfl rfl (fun s S => ?_))
    refine wpAny_execs_cons (testS S (by rfl) rfl rfl rfl (fun s S => ?_))
    refine wpAny_execs_cons (testS S (by rfl) rfl rfl rfl (fun s S => ?_))
    refine wpAny_execs_cons (wpAny_Expr_any ?_ (by rfl) (by rfl))
    refine methodCall_KW (ld S.F (by rfl) (methWr C S hW upW (fun a => a.m8) (by k_is) (by k_is) (by k_is) ?_))
    refine callWith_K (K := hd.heap_39 w.params) C.X (by k_is) ?_
    refine spliced_more (ld S.F (by rfl) (spliced_none ⟨S.X C.X, wpAny_call ?_⟩))
    refine m3_good C (by first | omega | (simp only [depth_deeper]; omega)) hh S hW c (fun W' s' hW' S => ?_)
    exact wpAny_execs_nil (wpAny_execs_nil (wpAny_execs_nil (wpAny_execs_nil (wpAny_execs_nil (k G W' T s' hT hW' (back S))))))
  · refine wpAny_execs_cons (testS S (by rfl) rfl rfl rfl (fun s S => ?_))
    refine wpAny_execs_cons (testS S (by rfl) rfl rfl rfl (fun s S => ?_))
    refine wpAny_execs_cons (testS S (by rfl) rfl rfl rfl (fun s S => ?_))
    refine wpAny_execs_cons (testS S (by rfl) rfl rfl rfl (fun s S => ?_))
    refine wpAny_execs_cons (testS S (by rfl) rfl rfl rfl (fun s S => ?_))
    refine wpAny_execs_cons (wpAny_Expr_any ?_ (by rfl) (by rfl))
    refine methodCall_KW (ld S.F (by rfl) (methWr C S hW upW (fun a => a.m9) (by k_is) (by k_is) (by k_is) ?_))
    refine callWith_K (K := hd.heap_39 w.params) C.X (by k_is) ?_
    refine spliced_more (wpAny_Constant_str (spliced_more (ld S.tk.F (by rfl) (spliced_none ⟨S.tk.X C.X, wpAny_call ?_⟩))))
    refine m4_good C (by first | omega | (simp only [depth_deeper]; omega)) hh S.tk hW c (fun W' s' hW' S => ?_)
    exact wpAny_execs_nil (wpAny_execs_nil (wpAny_execs_nil (wpAny_execs_nil (wpAny_execs_nil (wpAny_execs_nil (k G W' T s' hT hW' (back S)))))))
  · refine wpAny_execs_cons (testS S (by rfl) rfl rfl rfl (fun s S => ?_))
    refine wpAny_execs_cons (testS S (by rfl) rfl rfl rfl (fun s S => ?_))
    refine wpAny_execs_cons (testS S (by rfl) rfl rfl rfl (fun s S => ?_))
    refine wpAny_execs_cons (testS S (by rfl) rfl rfl rfl (fun s S => ?_))
    refine wpAny_execs_cons (testS S (by rfl) rfl rfl rfl (fun s S => ?_))
    refine wpAny_execs_cons (wpAny_Expr_any ?_ (by rfl) (by rfl))
    refine methodCall_KW (ld S.F (by rfl) (methWr C S hW upW (fun a => a.m10) (by k_is) (by k_is) (by k_is) ?_))
    refine callWith_K (K := hd.heap_39 w.params) C.X (by k_is) ?_
    refine spliced_more (wpAny_Constant_str (spliced_more (ld S.tk.F (by rfl) (spliced_none ⟨S.tk.X C.X, wpAny_call ?_⟩))))
    refine m5_good C (by first | omega | (simp only [depth_deeper]; omega)) hh S.tk hW c (fun W' s' hW' S => ?_)
    exact wpAny_execs_nil (wpAny_execs_nil (wpAny_execs_nil (wpAny_execs_nil (wpAny_execs_nil (wpAny_execs_nil (k G W' T s' hT hW' (back S)))))))
set_option maxHeartbeats 4000000 in
theorem tell_bad {ct : Addr} {kd : Nat} {t0 t : Tok} (C : Cx (hd.heap_39 w.params) B) (hroom : A.depth + 8 < recursionLimit) (hh : A.handled = none) (hfr : A.frames = some (envOf en esc L ea ecd :: outer)) (hek : esc.kind = .function) (FF : OutF B outer fm fc) (S : St B os G L m (fc ++ rest) s)
    (hW : Wr prog4 w 143 wc sp x da pl b W) (hWr : ∀ p ∈ W, p ∈ rest) (sb : Spoilt b rest) (hct : (ct, tupO #[.int kd t0, .str y t]) ∈ rest) (hk : kd ∈ [0, 1, 3, 4, 5]) (hq : ¬ Quiet wc b kd y) (hseen : b.seen = true)
    (k : ∀ e s', Fly B os G (envOf en esc L ea ecd :: outer) ((L, m) :: fm) rest e s' → R (.error (.ref e)) s') :
    codeAny (model prog4 w) A (.call (.ref 175) ⟨[.ref x, .ref ct], []⟩) R s := by
  have hi : b.ign = 0 := Decidable.byContradiction fun h => hq (.inl h)
  refine' call_fn (K := hd.heap_39 w.params) (binds := [((Str.ofString "target"), .ref x), ((Str.ofString "call"), .ref ct)]) S C.X C.lim ?ho ?hcd ?hroom ?hbind ?hloc (fun L' oL s fc_ S => ?_) ?hco ?hgen ?hk ?hcell
  case ho => k_is
  case hcd => k_is
  case hco => rfl
  case hgen => rfl
  case hk => rfl
  case hcell => decide
  case hroom => first | omega | (simp only [depth_deeper]; omega) | (simp only [depth_deeper, depth_in1]; omega)
  case hbind => exact BindsTo.of_eq rfl
  case hloc => exact locs rfl
  simp only [List.reverse_cons, List.reverse_nil, List.nil_append, List.cons_append] at S
  have up : ∀ p ∈ rest, p ∈ (L, oL) :: (fc ++ rest) := fun p hp => .tail _ (List.mem_append.mpr (.inr hp))
  refine wpAny_execs_cons (Assign_Tuple (ld S.F (by rfl) (unpack2S S hh (up _ hct) (fun s S => ?_))))
  simp only [List.mem_cons, List.not_mem_nil, or_false] at hk
  rcases hk with rfl | rfl | rfl | rfl | rfl
  · refine wpAny_execs_cons (testS S (by rfl) rfl rfl rfl (fun s S => ?_))
    refine wpAny_execs_cons (wpAny_Expr_any ?_ (by rfl) (by rfl))
    refine methodCall_KW (ld S.F (by rfl) (methWr C S hW (fun p hp => up p (hWr p hp)) (fun a => a.m5) (by k_is) (by k_is) (by k_is) ?_))
    refine callWith_K (K := hd.heap_39 w.params) C.X (by k_is) ?_
    refine spliced_more (ld S.F (by rfl) (spliced_more (dict0S S C.lim (fun D s hDm S => spliced_none ⟨S.X C.X, wpAny_call ?_⟩))))
    exact start_bad (fc := (L, oL) :: fc) (fun h => hq (.inr (.inl ⟨rfl, h⟩))) C (by first | omega | (simp only [depth_deeper]; omega)) hh (Around.frames_deeper hfr) rfl (FF.cons fc_ hek) (S.drop (List.sublist_cons_self _ _)) hW hWr sb hi (fun e s' F => leave_on hfr F (fun s' F => k e s' F))
  · refine wpAny_execs_cons (testS S (by rfl) rfl rfl rfl (fun s S => ?_))
    refine wpAny_execs_cons (testS S (by rfl) rfl rfl rfl (fun s S => ?_))
    refine wpAny_execs_cons (wpAny_Expr_any ?_ (by rfl) (by rfl))
    refine methodCall_KW (ld S.F (by rfl) (methWr C S hW (fun p hp => up p (hWr p hp)) (fun a => a.m6) (by k_is) (by k_is) (by k_is) ?_))
    refine callWith_K (K := hd.heap_39 w.params) C.X (by k_is) ?_
    refine spliced_more (ld S.F (by rfl) (spliced_none ⟨S.X C.X, wpAny_call ?_⟩))
    exact end_bad (fc := (L, oL) :: fc) C (by first | omega | (simp only [depth_deeper]; omega)) hh (Around.frames_deeper hfr) rfl (FF.cons fc_ hek) S hW hWr sb hi (fun e s' F => leave_on hfr F (fun s' F => k e s' F))
  · refine wpAny_execs_cons (testS S (by rfl) rfl rfl rfl (fun s S => ?_))
    refine wpAny_execs_cons (testS S (by rfl) rfl rfl rfl (fun s S => ?_))
    refine wpAny_execs_cons (testS S (by rfl) rfl rfl rfl (fun s S => ?_))
    refine wpAny_execs_cons (testS S (by rfl) rfl rfl rfl (fun s S => ?_))
    refine wpAny_execs_cons (wpAny_Expr_any ?_ (by rfl) (by rfl))
    refine methodCall_KW (ld S.F (by rfl) (methWr C S hW (fun p hp => up p (hWr p hp)) (fun a => a.m8) (by k_is) (by k_is) (by k_is) ?_))
    refine callWith_K (K := hd.heap_39 w.params) C.X (by k_is) ?_
    refine spliced_more (ld S.F (by rfl) (spliced_none ⟨S.X C.X, wpAny_call ?_⟩))
    have hwc : wc = true := by cases wc with | true => rfl | false => exact absurd (.inr (.inr (.inl ⟨rfl, rfl⟩))) hq
    subst hwc
    have hdn : b.done = false := by
      cases q : b.done with
      | false => rfl
      | true => exact absurd (.inr (.inr (.inr ⟨q, .inl rfl⟩))) hq
    exact com_bad (fc := (L, oL) :: fc) C (by first | omega | (simp only [depth_deeper]; omega)) hh (Around.frames_deeper hfr) rfl (FF.cons fc_ hek) S hW hWr sb hi hdn hseen (fun e s' F => leave_on hfr F (fun s' F => k e s' F))
  · refine wpAny_execs_cons (testS S (by rfl) rfl rfl rfl (fun s S => ?_))
    refine wpAny_execs_cons (testS S (by rfl) rfl rfl rfl (fun s S => ?_))
    refine wpAny_execs_cons (testS S (by rfl) rfl rfl rfl (fun s S => ?_))
    refine wpAny_execs_cons (testS S (by rfl) rfl rfl rfl (fun s S => ?_))
    refine wpAny_execs_cons (testS S (by rfl) rfl rfl rfl (fun s S => ?_))
    refine wpAny_execs_cons (wpAny_Expr_any ?_ (by rfl) (by rfl))
    refine methodCall_KW (ld S.F (by rfl) (methWr C S hW (fun p hp => up p (hWr p hp)) (fun a => a.m9) (by k_is) (by k_is) (by k_is) ?_))
    refine callWith_K (K := hd.heap_39 w.params) C.X (by k_is) ?_
    refine spliced_more (wpAny_Constant_str (spliced_more (ld S.tk.F (by rfl) (spliced_none ⟨S.tk.X C.X, wpAny_call ?_⟩))))
    have hdn : b.done = false := by
      cases q : b.done with
      | false => rfl
      | true => exact absurd (.inr (.inr (.inr ⟨q, .inr rfl⟩))) hq
    exact pi_bad (fc := (L, oL) :: fc) C (by first | omega | (simp only [depth_deeper]; omega)) hh (Around.frames_deeper hfr) rfl (FF.cons fc_ hek) S.tk hW hWr sb hi hdn hseen (fun e s' F => leave_on hfr F (fun s' F => k e s' F))
  · refine wpAny_execs_cons (testS S (by rfl) rfl rfl rfl (fun s S => ?_))
    refine wpAny_execs_cons (testS S (by rfl) rfl rfl rfl (fun s S => ?_))
    refine wpAny_execs_cons (testS S (by rfl) rfl rfl rfl (fun s S => ?_))
    refine wpAny_execs_cons (testS S (by rfl) rfl rfl rfl (fun s S => ?_))
    refine wpAny_execs_cons (testS S (by rfl) rfl rfl rfl (fun s S => ?_))
    refine wpAny_execs_cons (wpAny_Expr_any ?_ (by rfl) (by rfl))
    refine methodCall_KW (ld S.F (by rfl) (methWr C S hW (fun p hp => up p (hWr p hp)) (fun a => a.m10) (by k_is) (by k_is) (by k_is) ?_))
    refine callWith_K (K := hd.heap_39 w.params) C.X (by k_is) ?_
    refine spliced_more (wpAny_Constant_str (spliced_more (ld S.tk.F (by rfl) (spliced_none ⟨S.tk.X C.X, wpAny_call ?_⟩))))
    exact sns_bad (fc := (L, oL) :: fc) C (by first | omega | (simp only [depth_deeper]; omega)) hh (Around.frames_deeper hfr) rfl (FF.cons fc_ hek) S.tk hW hWr sb hi (fun e s' F => leave_on hfr F (fun s' F => k e s' F))
end
end Mine
end
section
open PySem PySem.W PySem.Calls PyProof.Rows
set_option Elab.async false
set_option maxRecDepth 100000
set_option linter.unusedVariables false
namespace Mine
local macro_rules | `(tactic| walk_at "mem") => `(tactic| (repeat (first | assumption | exact List.Mem.head _ | refine List.Mem.tail _ ?_)))
local macro_rules | `(tactic| walk_at "up") => `(tactic| (repeat (first | exact Up.head | refine Up.tail ?_)))
section
variable {w : World} {A : Around} {E : Value → Shared → Prop} {s : Shared} {R : Result → Shared → Prop} {B : Heap} {os : OsState} {G : Array GenState} {L : Addr} {m : Str → Option Value} {rest news W T : List Cell} {wc sp : Bool} {x da pl : Addr} {b : Abs}

variable {outer : List Env} {fm : List FMap} {fc : List Cell} {en : Str} {esc : Scope} {ea : Addr} {ecd : Value} {l : List (Str × Tok)} {y : Str} {t : Tok}
/-- a store to an attribute that is not there -/
theorem setNew {prog : Program} {K : Frag} {x C dx : Addr} {od : Obj} {sl : Array (Option Value)} {am : Str → Option Value} {name : Str} {v : Value} {k : Nat} {news' : Obj → List Cell} {Q : Unit → Shared → Prop} (S : St B os G L m news s) (X : K.In B)
    (hx : (x, (⟨.ref C, some dx, .plain, sl⟩ : Obj)) ∈ news) (U : ∀ od', Up dx od od' news (news' od')) (ho : NsZ k od am) (hz : k < 1000) (h0 : am name = none)
    (hs : findIn K (.ref C) "__setattr__" = some (some (.builtin "object.__setattr__"))) (hp : plainOver K C = true) (ht : takerIn K C name = some none) (hh : hasDictIn K C = true)
    (h : ∀ od' s', NsZ (k + 1) od' (fun y => if y = name then some v else am y) → St B os G L m (news' od') s' → Q () s') : wpAny (model prog w) A (setAttr (.ref x) name v) Q E s :=
  setS S X hx U ho hz hs hp ht hh (fun od' s' hz S => h od' s' (by rw [h0] at hz; exact hz) S)
def keyStr : Value → Str
  | .str x _ => x
  | _ => (Str.ofString "")
theorem pairs_of {prog : Program} {P : Params} (hP : P = w.params) : ∀ {l : List DictEntry}, KeysLit P l → PySem.Pairs (PySem.strKind prog w) l (l.map fun e => (keyStr e.key, e.val))
  | [], _ => PySem.Pairs.nil
  | e :: r, ⟨⟨x, t, h1, h2⟩, hr⟩ => PySem.Pairs.cons (kv := (keyStr e.key, e.val)) (by rw [h1]; exact isStrOf_str x t prog w) rfl (pairs_of hP hr)
theorem dictAt_K {prog : Program} {K : Frag} {h : Heap} {a : Addr} {es : Array DictEntry} {n : Nat} (X : K.In h) (hl : K.lookup a = some ⟨.type "dict", none, .dict es n, #[]⟩) (hk : KeysLit w.params es.toList) (nd : (es.toList.map fun e => keyStr e.key).Nodup) :
    ∃ kvs, h.DictAt (PySem.strKind prog w) a kvs n ∧ kvs.length = es.size :=
  ⟨es.toList.map fun e => (keyStr e.key, e.val), ⟨_, es, X _ _ hl, ⟨rfl, rfl, rfl⟩, rfl, (fun e he => by
    obtain ⟨x, t, e1, e2⟩ := hk.all e (Array.mem_toList_iff.mpr he)
    exact ⟨x, by rw [e1]; exact isStrOf_str x t prog w, e2⟩), pairs_of rfl hk, by rw [List.map_map]; exact nd⟩, by simp⟩
theorem nsMap_at {h : Heap} (X : (hd.heap_39 w.params).In h) : ∃ kvs ep, h.DictAt (PySem.strKind prog4 w) 37 kvs ep ∧ kvs.length = 7 := by
  obtain ⟨kvs, hD, hl⟩ := dictAt_K (prog := prog4) (a := 37) (w := w) X (by k_is) (by k_keys) (by simp only [List.map_cons, List.map_nil, keyStr]; decide)
  exact ⟨kvs, _, hD, hl⟩
set_option maxHeartbeats 8000000 in
theorem init_spec {dx bm el : Addr} {tx : Tok} {npl ne : Nat} (C : Cx (hd.heap_39 w.params) B) (hroom : A.depth + 3 < recursionLimit) (hh : A.handled = none)
    (S : St B os G L m ((x, instO 143 dx) :: (dx, dictOf [] 0) :: (bm, bmO pl) :: (pl, listOf #[] npl) :: (el, listOf #[.str (Str.ofString "x") tx] ne) :: rest) s)
    (k : ∀ W' da s', Wr prog4 w 143 wc sp x da pl ⟨[], [], 0, false, false, 0, 0⟩ W' → St B os G L m (W' ++ rest) s' → R (.ok (.ret .none)) s') :
    codeAny (model prog4 w) A (.call (.ref 60) ⟨[.ref x, .ref bm], [((Str.ofString "with_comments"), .bool wc), ((Str.ofString "strip_text"), .bool sp), ((Str.ofString "exclude_tags"), .ref el)]⟩) R s := by
  have nz : NsZ 0 (dictOf [] 0) (fun _ => none) := ⟨#[], 0, rfl, (fun e he => by simp at he), fun _ => rfl, by decide⟩
  refine' call_fn (K := hd.heap_39 w.params) (binds := [((Str.ofString "self"), .ref x), ((Str.ofString "write"), .ref bm), ((Str.ofString "with_comments"), .bool wc), ((Str.ofString "strip_text"), .bool sp), ((Str.ofString "rewrite_prefixes"), .bool false), ((Str.ofString "qname_aware_tags"), .none), ((Str.ofString "qname_aware_attrs"), .none), ((Str.ofString "exclude_attrs"), .none), ((Str.ofString "exclude_tags"), .ref el)]) S C.X C.lim ?ho ?hcd ?hroom ?hbind ?hloc (fun L' oL s fc_ S => ?_) ?hco ?hgen ?hk ?hcell
  case ho => k_is
  case hcd => k_is
  case hco => rfl
  case hgen => rfl
  case hk => rfl
  case hcell => decide
  case hroom => omega
  case hbind => exact kp_binds (S.X C.X) (fun _ => by kernel_rfl)
  case hloc => exact locs rfl
  simp only [List.reverse_cons, List.reverse_nil, List.nil_append, List.cons_append] at S
  refine wpAny_execs_cons (plainObj_wpAny_Assign_Attribute (ld S.F (by rfl) (ld S.F (by rfl) ?_)))
  refine setNew S C.X (List.Mem.tail _ (List.Mem.head _)) (fun od' => (Up.tail (Up.tail Up.head))) nz (by decide) (by rfl) (by k_is) (by k_is) (by k_is) (by k_is) (fun od' s nz S => ?_)
  refine wpAny_execs_cons (plainObj_wpAny_Assign_Attribute (List_ (spliced_none (listS S (fun da s S => ld S.F (by rfl) ?_)))))
  refine setNew S C.X (List.Mem.tail _ (List.Mem.tail _ (List.Mem.head _))) (fun od' => (Up.tail (Up.tail (Up.tail Up.head)))) nz (by decide) (by rfl) (by k_is) (by k_is) (by k_is) (by k_is) (fun od' s nz S => ?_)
  refine wpAny_execs_cons (plainObj_wpAny_Assign_Attribute (ld S.F (by rfl) (ld S.F (by rfl) ?_)))
  refine setNew S C.X (List.Mem.tail _ (List.Mem.tail _ (List.Mem.head _))) (fun od' => (Up.tail (Up.tail (Up.tail Up.head)))) nz (by decide) (by rfl) (by k_is) (by k_is) (by k_is) (by k_is) (fun od' s nz S => ?_)
  refine wpAny_execs_cons (plainObj_wpAny_Assign_Attribute (ld S.F (by rfl) (ld S.F (by rfl) ?_)))
  refine setNew S C.X (List.Mem.tail _ (List.Mem.tail _ (List.Mem.head _))) (fun od' => (Up.tail (Up.tail (Up.tail Up.head)))) nz (by decide) (by rfl) (by k_is) (by k_is) (by k_is) (by k_is) (fun od' s nz S => ?_)
  refine wpAny_execs_cons (plainObj_wpAny_Assign_Attribute (wpAny_IfExp (wpAny_isTrue_value (ld S.F (by rfl) (truthy_none (ifF rfl (wpAny_Constant_none (ld S.F (by rfl) ?_))))))))
  refine setNew S C.X (List.Mem.tail _ (List.Mem.tail _ (List.Mem.head _))) (fun od' => (Up.tail (Up.tail (Up.tail Up.head)))) nz (by decide) (by rfl) (by k_is) (by k_is) (by k_is) (by k_is) (fun od' s nz S => ?_)
  refine wpAny_execs_cons (plainObj_wpAny_Assign_Attribute (wpAny_IfExp (wpAny_isTrue_value (ld S.F (by rfl) (truthy_listS (l := [.str (Str.ofString "x") tx]) S (List.Mem.tail _ (List.Mem.tail _ (List.Mem.tail _ (List.Mem.tail _ (List.Mem.tail _ (List.Mem.tail _ (List.Mem.head _))))))) (by simp) (fun s S => ifT rfl ?_))))))
  refine wpAny_Call_ofName (bltS C S (by k_is) PyProof.Rows.boot_set (by decide) ?_)
  refine PyProof.Rows.callWith_type1 (spliced_more (ld S.F (by rfl) (spliced_none ?_)))
  refine setOfOne hh S (List.Mem.tail _ (List.Mem.tail _ (List.Mem.tail _ (List.Mem.tail _ (List.Mem.tail _ (List.Mem.tail _ (List.Mem.head _))))))) (fun es oes s hes S => ld S.F (by rfl) ?_)
  refine setNew S C.X (List.Mem.tail _ (List.Mem.tail _ (List.Mem.tail _ (List.Mem.head _)))) (fun od' => (Up.tail (Up.tail (Up.tail (Up.tail Up.head))))) nz (by decide) (by rfl) (by k_is) (by k_is) (by k_is) (by k_is) (fun od' s nz S => ?_)
  refine wpAny_execs_cons (plainObj_wpAny_Assign_Attribute (ld S.F (by rfl) (ld S.F (by rfl) ?_)))
  refine setNew S C.X (List.Mem.tail _ (List.Mem.tail _ (List.Mem.tail _ (List.Mem.head _)))) (fun od' => (Up.tail (Up.tail (Up.tail (Up.tail Up.head))))) nz (by decide) (by rfl) (by k_is) (by k_is) (by k_is) (by k_is) (fun od' s nz S => ?_)
  refine wpAny_execs_cons (wpAny_If (wpAny_isTrue_value (ld S.F (by rfl) (truthy_none (ifF rfl ?_)))))
  refine wpAny_execs_cons (plainObj_wpAny_Assign_Attribute (wpAny_Constant_none (ld S.F (by rfl) ?_)))
  refine setNew S C.X (List.Mem.tail _ (List.Mem.tail _ (List.Mem.tail _ (List.Mem.head _)))) (fun od' => (Up.tail (Up.tail (Up.tail (Up.tail Up.head))))) nz (by decide) (by rfl) (by k_is) (by k_is) (by k_is) (by k_is) (fun od' s nz S => ?_)
  refine wpAny_execs_nil ?_
  refine wpAny_execs_cons (wpAny_If (wpAny_isTrue_value (ld S.F (by rfl) (truthy_none (ifF rfl ?_)))))
  refine wpAny_execs_cons (plainObj_wpAny_Assign_Attribute (wpAny_Constant_none (ld S.F (by rfl) ?_)))
  refine setNew S C.X (List.Mem.tail _ (List.Mem.tail _ (List.Mem.tail _ (List.Mem.head _)))) (fun od' => (Up.tail (Up.tail (Up.tail (Up.tail Up.head))))) nz (by decide) (by rfl) (by k_is) (by k_is) (by k_is) (by k_is) (fun od' s nz S => ?_)
  refine wpAny_execs_nil ?_
  refine wpAny_execs_cons (plainObj_wpAny_Assign_Attribute (List_ (spliced_more (List_ (spliced_more (Tuple_ (spliced_more (wpAny_Constant_str (spliced_more (wpAny_Constant_str (spliced_none ?_)))))))))))
  refine tupS S.tk.tk (fun tp s S => spliced_none (listS S (fun lx s S => spliced_none (listS S (fun st s S => ld S.F (by rfl) ?_)))))
  refine setNew S C.X (List.Mem.tail _ (List.Mem.tail _ (List.Mem.tail _ (List.Mem.tail _ (List.Mem.tail _ (List.Mem.tail _ (List.Mem.head _))))))) (fun od' => (Up.tail (Up.tail (Up.tail (Up.tail (Up.tail (Up.tail (Up.tail Up.head)))))))) nz (by decide) (by rfl) (by k_is) (by k_is) (by k_is) (by k_is) (fun od' s nz S => ?_)
  refine wpAny_execs_cons (plainObj_wpAny_Assign_Attribute (List_ (spliced_none (listS S (fun ns s S => ld S.F (by rfl) ?_)))))
  refine setNew S C.X (List.Mem.tail _ (List.Mem.tail _ (List.Mem.tail _ (List.Mem.tail _ (List.Mem.tail _ (List.Mem.tail _ (List.Mem.tail _ (List.Mem.head _)))))))) (fun od' => (Up.tail (Up.tail (Up.tail (Up.tail (Up.tail (Up.tail (Up.tail (Up.tail Up.head))))))))) nz (by decide) (by rfl) (by k_is) (by k_is) (by k_is) (by k_is) (fun od' s nz S => ?_)
  refine wpAny_execs_cons (wpAny_If (wpAny_isTrue_Not (wpAny_isTrue_value (ld S.F (by rfl) (wpAny_truthy_bool (ifT rfl ?_))))))
  refine wpAny_execs_cons (wpAny_Expr_any ?_ (by rfl) (by rfl))
  refine methodCall_KW (Attribute_Name_ (ld S.F (by rfl) ?_))
  refine attrS S C.X (List.Mem.tail _ (List.Mem.tail _ (List.Mem.tail _ (List.Mem.tail _ (List.Mem.tail _ (List.Mem.tail _ (List.Mem.tail _ (List.Mem.head _)))))))) (List.Mem.tail _ (List.Mem.tail _ (List.Mem.tail _ (List.Mem.tail _ (List.Mem.tail _ (List.Mem.tail _ (List.Mem.tail _ (List.Mem.tail _ (List.Mem.head _))))))))) nz.o (by k_is) (by k_is) (by k_is) (by k_is) (by rfl) rfl (fun s S => ?_)
  refine appM S (List.Mem.head _) (callWith_method1 ?_ rfl)
  refine spliced_more (wpAny_Call_ofName (bltS C S (by k_is) PyProof.Rows.boot_list (by decide) (PyProof.Rows.callWith_type1 ?_)))
  obtain ⟨nkv, nep, hnm, hnl⟩ := nsMap_at (S.X C.X)
  refine spliced_more (wpAny_Call_items (knd := PySem.strKind prog4 w) (d := 37) (kvs := nkv) rfl hnm.dictOf rfl rfl (fun Q' hq => globS C S (by k_is) hq) (spliced_none ?_))
  have S := S.push (t := s.toks) ({ cls := .type "dict_items", data := .fields #[.ref 37] } : Obj)
  refine listItems (kvs := nkv) (ep := nep) hh S ⟨_, S.get (.head _), rfl, rfl⟩ (hnm.keep fun b o e => Heap.get?_push_of_some _ e) (by rw [hnl]; decide) (fun n1 its c1 s hn1 S => spliced_none ?_)
  have S := S.drop (List.Sublist.cons_cons _ (List.sublist_cons_self _ _))
  refine appendL S (Up.tail Up.head) (fun s S => ?_) (by simp)
  refine wpAny_execs_nil ?_
  refine wpAny_execs_cons (wpAny_Expr_any ?_ (by rfl) (by rfl))
  refine methodCall_KW (Attribute_Name_ (ld S.F (by rfl) ?_))
  refine attrS S C.X (List.Mem.tail _ (List.Mem.tail _ (List.Mem.tail _ (List.Mem.tail _ (List.Mem.tail _ (List.Mem.tail _ (List.Mem.tail _ (List.Mem.tail _ (List.Mem.head _))))))))) (List.Mem.tail _ (List.Mem.tail _ (List.Mem.tail _ (List.Mem.tail _ (List.Mem.tail _ (List.Mem.tail _ (List.Mem.tail _ (List.Mem.tail _ (List.Mem.tail _ (List.Mem.head _)))))))))) nz.o (by k_is) (by k_is) (by k_is) (by k_is) (by rfl) rfl (fun s S => ?_)
  refine appM S (List.Mem.tail _ (List.Mem.head _)) (callWith_method1 ?_ rfl)
  refine spliced_more (List_ (spliced_none (listS S (fun n2 s S => spliced_none ?_))))
  refine appendL S (Up.tail (Up.tail Up.head)) (fun s S => ?_) (by simp)
  refine wpAny_execs_cons (plainObj_wpAny_Assign_Attribute (dict0S S C.lim (fun pm s hpm S => ld S.F (by rfl) ?_)))
  refine setNew S C.X (List.Mem.tail _ (List.Mem.tail _ (List.Mem.tail _ (List.Mem.tail _ (List.Mem.tail _ (List.Mem.tail _ (List.Mem.tail _ (List.Mem.tail _ (List.Mem.tail _ (List.Mem.tail _ (List.Mem.head _))))))))))) (fun od' => (Up.tail (Up.tail (Up.tail (Up.tail (Up.tail (Up.tail (Up.tail (Up.tail (Up.tail (Up.tail (Up.tail Up.head)))))))))))) nz (by decide) (by rfl) (by k_is) (by k_is) (by k_is) (by k_is) (fun od' s nz S => ?_)
  refine wpAny_execs_cons (plainObj_wpAny_Assign_Attribute (List_ (spliced_more (wpAny_Constant_bool (spliced_none (listS S (fun ps s S => ld S.F (by rfl) ?_)))))))
  refine setNew S C.X (List.Mem.tail _ (List.Mem.tail _ (List.Mem.tail _ (List.Mem.tail _ (List.Mem.tail _ (List.Mem.tail _ (List.Mem.tail _ (List.Mem.tail _ (List.Mem.tail _ (List.Mem.tail _ (List.Mem.tail _ (List.Mem.head _)))))))))))) (fun od' => (Up.tail (Up.tail (Up.tail (Up.tail (Up.tail (Up.tail (Up.tail (Up.tail (Up.tail (Up.tail (Up.tail (Up.tail Up.head))))))))))))) nz (by decide) (by rfl) (by k_is) (by k_is) (by k_is) (by k_is) (fun od' s nz S => ?_)
  refine wpAny_execs_cons (plainObj_wpAny_Assign_Attribute (wpAny_Constant_none (ld S.F (by rfl) ?_)))
  refine setNew S C.X (List.Mem.tail _ (List.Mem.tail _ (List.Mem.tail _ (List.Mem.tail _ (List.Mem.tail _ (List.Mem.tail _ (List.Mem.tail _ (List.Mem.tail _ (List.Mem.tail _ (List.Mem.tail _ (List.Mem.tail _ (List.Mem.head _)))))))))))) (fun od' => (Up.tail (Up.tail (Up.tail (Up.tail (Up.tail (Up.tail (Up.tail (Up.tail (Up.tail (Up.tail (Up.tail (Up.tail Up.head))))))))))))) nz (by decide) (by rfl) (by k_is) (by k_is) (by k_is) (by k_is) (fun od' s nz S => ?_)
  refine wpAny_execs_cons (plainObj_wpAny_Assign_Attribute (wpAny_Constant_bool (ld S.F (by rfl) ?_)))
  refine setNew S C.X (List.Mem.tail _ (List.Mem.tail _ (List.Mem.tail _ (List.Mem.tail _ (List.Mem.tail _ (List.Mem.tail _ (List.Mem.tail _ (List.Mem.tail _ (List.Mem.tail _ (List.Mem.tail _ (List.Mem.tail _ (List.Mem.head _)))))))))))) (fun od' => (Up.tail (Up.tail (Up.tail (Up.tail (Up.tail (Up.tail (Up.tail (Up.tail (Up.tail (Up.tail (Up.tail (Up.tail Up.head))))))))))))) nz (by decide) (by rfl) (by k_is) (by k_is) (by k_is) (by k_is) (fun od' s nz S => ?_)
  refine wpAny_execs_cons (plainObj_wpAny_Assign_Attribute (wpAny_Constant_bool (ld S.F (by rfl) ?_)))
  refine setNew S C.X (List.Mem.tail _ (List.Mem.tail _ (List.Mem.tail _ (List.Mem.tail _ (List.Mem.tail _ (List.Mem.tail _ (List.Mem.tail _ (List.Mem.tail _ (List.Mem.tail _ (List.Mem.tail _ (List.Mem.tail _ (List.Mem.head _)))))))))))) (fun od' => (Up.tail (Up.tail (Up.tail (Up.tail (Up.tail (Up.tail (Up.tail (Up.tail (Up.tail (Up.tail (Up.tail (Up.tail Up.head))))))))))))) nz (by decide) (by rfl) (by k_is) (by k_is) (by k_is) (by k_is) (fun od' s nz S => ?_)
  refine wpAny_execs_cons (plainObj_wpAny_Assign_Attribute (wpAny_Constant_int (ld S.tk.F (by rfl) ?_)))
  refine setNew S.tk C.X (List.Mem.tail _ (List.Mem.tail _ (List.Mem.tail _ (List.Mem.tail _ (List.Mem.tail _ (List.Mem.tail _ (List.Mem.tail _ (List.Mem.tail _ (List.Mem.tail _ (List.Mem.tail _ (List.Mem.tail _ (List.Mem.head _)))))))))))) (fun od' => (Up.tail (Up.tail (Up.tail (Up.tail (Up.tail (Up.tail (Up.tail (Up.tail (Up.tail (Up.tail (Up.tail (Up.tail Up.head))))))))))))) nz (by decide) (by rfl) (by k_is) (by k_is) (by k_is) (by k_is) (fun od' s nz S => ?_)
  refine wpAny_execs_nil ?_
  have S := S.perm (List.perm_middle (l₁ := [_, _]))
  have S := S.perm (List.perm_middle (l₁ := [_, _, _]))
  have S := S.perm (List.perm_middle (l₁ := [_, _, _, _, _, _, _]))
  have S := S.perm (List.perm_middle (l₁ := [_, _, _, _, _, _, _]))
  have S := S.perm (List.perm_middle (l₁ := [_, _, _, _, _, _, _, _, _, _, _, _, _, _]))
  have S := S.perm (List.perm_middle (l₁ := [_, _, _, _, _, _, _, _, _, _, _, _, _, _]))
  have S := S.perm (List.perm_middle (l₁ := [_, _, _, _, _, _, _, _, _, _]))
  have S := S.perm (List.perm_middle (l₁ := [_, _, _, _, _, _, _]))
  have S := S.perm (List.perm_middle (l₁ := [_, _, _, _, _, _, _, _, _]))
  have S := S.perm (List.perm_middle (l₁ := [_, _, _, _, _, _, _, _, _, _]))
  have S := S.perm (List.perm_middle (l₁ := [_, _, _, _, _, _, _, _, _, _, _]))
  have S := S.perm (List.perm_middle (l₁ := [_, _, _, _, _, _, _, _, _, _, _, _, _, _]))
  have S := S.perm (List.perm_middle (l₁ := [_, _, _, _, _, _, _, _, _, _, _, _, _, _]))
  have S := S.perm (List.perm_middle (l₁ := [_, _, _, _, _, _, _, _, _, _, _, _, _, _]))
  have S := S.drop (List.Sublist.append (List.Sublist.refl [_, _, _, _, _, _, _, _, _, _, _, _, _, _]) (List.Sublist.cons _ (List.Sublist.cons _ (List.Sublist.refl _))))
  refine k _ da _ ⟨{ x := x, dx := dx, da := da, st := st, ns := ns, ps := ps, es := es, bm := bm, pl := pl, lx := lx, tp := tp, od := od', oes := oes, tx1 := _, tx2 := _, data := [], nd := 0, dec := [], nst := 0, nsl := [(n1, its, c1), (n2, #[], 0)], nns := 2, psn := 1, nps := 0, out := [], npl := npl }, rfl, ⟨⟨⟨_, nz.le (by decide), ?_⟩, hes, rfl⟩, rfl, rfl, rfl, rfl, ⟨[], rfl, rfl⟩, rfl, rfl, ?_⟩⟩ (S.back fc_)
  · exact ⟨by rfl, by rfl, by rfl, by rfl, by rfl, by rfl, by rfl, by rfl, by rfl, by rfl, by rfl, by rfl, by rfl, by rfl, by rfl, ⟨_, by rfl⟩, by rfl, by rfl, by rfl, by rfl, by rfl, by rfl, by rfl, by rfl, by rfl, by rfl⟩
  · intro q hq
    simp only [List.mem_cons, List.not_mem_nil, or_false] at hq
    rcases hq with rfl | rfl
    · show its.size ≤ _
      rw [hn1, hnl]; decide
    · exact Nat.zero_le _
end
end Mine
end
section
open PySem PySem.W PySem.Calls PyProof.Rows
set_option Elab.async false
set_option maxRecDepth 100000
set_option linter.unusedVariables false
namespace Mine
local macro_rules | `(tactic| walk_at "mem") => `(tactic| (repeat (first | assumption | exact List.Mem.head _ | refine List.Mem.tail _ ?_)))
local macro_rules | `(tactic| walk_at "up") => `(tactic| (repeat (first | exact Up.head | refine Up.tail ?_)))
section
variable {w : World} {A : Around} {E : Value → Shared → Prop} {s : Shared} {R : Result → Shared → Prop} {B : Heap} {os : OsState} {G : Array GenState} {L : Addr} {m : Str → Option Value} {rest news W T : List Cell} {wc sp : Bool} {x da pl : Addr} {b : Abs}
theorem newS {prog : Program} {K : Frag} {C fI : Addr} {pos : List Value} {kw : List (Str × Value)} {Q : Value → Shared → Prop} (S : St B os G L m news s) (X : K.In B) (hm : makesIn K C = true) (hi : findIn K (.ref C) "__init__" = some (some (.ref fI))) (hf : isFn K (.ref fI) = true)
    (h : ∀ x dx s', St B os G L m ((x, instO C dx) :: (dx, dictOf [] 0) :: news) s' →
      codeAny (model prog w) (A.under (.builtin "type.__call__" ⟨.ref C :: pos, kw⟩)) (.call (.ref fI) ⟨.ref x :: pos, kw⟩) (fun r s' => match r with | .ok (.ret v) => v = .none ∧ Q (.ref x) s' | .ok _ => False | .error e => E e s') s') :
    wpAny (model prog w) A (call (.ref C) pos kw) Q E s := by
  refine call_cls S.F X S.N hm hi hf (fun x dx h' F N l1 l2 => codeAny_mono (h x dx _ ⟨F, N, ?_, S.gens, S.bare, S.os⟩) fun r s' hr => hr)
  rw [List.map_cons, List.map_cons, List.nodup_cons, List.nodup_cons]
  refine ⟨fun hm => ?_, fun hm => ?_, S.nd⟩
  · rcases List.mem_cons.mp hm with e | hm
    · exact absurd (show x = dx from e) (Nat.ne_of_gt l2)
    · obtain ⟨q, hq, e⟩ := List.mem_map.mp hm
      have := l1 q hq
      rw [show q.1 = x from e] at this
      exact absurd (Nat.lt_trans l2 this) (Nat.lt_irrefl _)
  · obtain ⟨q, hq, e⟩ := List.mem_map.mp hm
    have := l1 q hq
    rw [show q.1 = dx from e] at this
    exact absurd this (Nat.lt_irrefl _)
abbrev wcOf (n : Int) : Bool := n.fmod 2 == 0
abbrev spOf (n : Int) : Bool := (n.fdiv 2).fmod 2 == 1
set_option maxHeartbeats 4000000 in
theorem writer_spec {n : Int} {tn : Tok} {npl : Nat} (C : Cx (hd.heap_39 w.params) B) (hroom : A.depth + 6 < recursionLimit) (hh : A.handled = none) (S : St B os G L m ((pl, listOf #[] npl) :: rest) s)
    (k : ∀ W' x da s', Wr prog4 w 143 (wcOf n) (spOf n) x da pl ⟨[], [], 0, false, false, 0, 0⟩ W' → St B os G L m (W' ++ rest) s' → R (.ok (.ret (.ref x))) s') :
    codeAny (model prog4 w) A (.call (.ref 168) ⟨[.ref pl, .int n tn], []⟩) R s := by
  refine' call_fn (K := hd.heap_39 w.params) (binds := [((Str.ofString "pieces"), .ref pl), ((Str.ofString "total"), .int n tn)]) S C.X C.lim ?ho ?hcd ?hroom ?hbind ?hloc (fun L' oL s fc_ S => ?_) ?hco ?hgen ?hk ?hcell
  case ho => k_is
  case hcd => k_is
  case hco => rfl
  case hgen => rfl
  case hk => rfl
  case hcell => decide
  case hroom => first | omega | (simp only [depth_deeper]; omega) | (simp only [depth_deeper, depth_in1]; omega)
  case hbind => exact BindsTo.of_eq rfl
  case hloc => exact locs rfl
  simp only [List.reverse_cons, List.reverse_nil, List.nil_append, List.cons_append] at S
  refine wpAny_execs_cons (wpAny_Return_some (wpAny_Call_ofName (globS C S (by k_is) ?_)))
  refine callWith_KW (K := hd.heap_39 w.params) C.X (by k_is) rfl ?_
  refine spliced_more (Attribute_Name_ (ld S.F (by rfl) ?_))
  refine appendAttrS S (List.Mem.tail _ (List.Mem.head _)) (fun bm s S => spliced_none (kws_cons ?_))
  refine wpAny_Compare1 (wpAny_BinOp (ld S.F (by rfl) (cInt S (fun _ s S => modS S (by decide) (fun _ s S => cInt S (fun _ s S => PySem.P.eq_int ?_))))))
  refine kws_cons (wpAny_Compare1 (wpAny_BinOp (wpAny_BinOp (ld S.F (by rfl) (cInt S (fun _ s S => fdivS S (by decide) (by decide) (fun _ s S => cInt S (fun _ s S => modS S (by decide) (fun _ s S => cInt S (fun _ s S => PySem.P.eq_int ?_))))))))))
  refine kws_cons (List_ (spliced_more (cStr S (fun tx s S => spliced_none (listS S (fun el s S => kws_nil ⟨S.X C.X, ?_⟩))))))
  show wpAny _ _ (call (.ref 143) [.ref bm] [((Str.ofString "with_comments"), .bool (wcOf n)), ((Str.ofString "strip_text"), .bool (spOf n)), ((Str.ofString "exclude_tags"), .ref el)]) _ _ _
  refine newS S C.X (by k_is) (fI := 60) (by k_is) (by k_is) (fun x dx s S => ?_)
  have S : St B os G L' _ ((x, instO 143 dx) :: (dx, dictOf [] 0) :: (bm, bmO pl) :: (pl, listOf #[] npl) :: (el, listOf #[.str (Str.ofString "x") tx] 0) :: (L, oL) :: rest) s :=
    S.perm (List.Perm.cons _ (List.Perm.cons _ (((List.Perm.swap ..).trans (List.Perm.cons _ ((List.Perm.cons _ (List.Perm.swap ..)).trans (List.Perm.swap ..)))))))
  refine init_spec (rest := (L, oL) :: rest) C (by rw [depth_under_kw, depth_deeper]; omega) hh S (fun W' da s hW S => ⟨rfl, ?_⟩)
  exact k _ _ _ _ hW (S.rise.back fc_)
end
end Mine
end
section
open PySem PySem.W PySem.Calls PyProof.Rows
set_option Elab.async false
set_option maxRecDepth 100000
set_option linter.unusedVariables false
namespace Mine
local macro_rules | `(tactic| walk_at "mem") => `(tactic| (repeat (first | assumption | exact List.Mem.head _ | refine List.Mem.tail _ ?_)))
local macro_rules | `(tactic| walk_at "up") => `(tactic| (repeat (first | exact Up.head | refine Up.tail ?_)))
/-- the calls of the law -/
inductive Call4
  | tell (kd : Nat) (y : Str)
  | text (y : Str)
  | bad
def CallIs (news : List Cell) (v : Value) : Call4 → Prop
  | .tell kd y => ∃ a t0 t, v = .ref a ∧ (a, tupO #[.int kd t0, .str y t]) ∈ news
  | .text y => ∃ a t0 t, v = .ref a ∧ (a, tupO #[.int 2 t0, .str y t]) ∈ news
  | .bad => ∃ a t0 u, v = .ref a ∧ (a, tupO #[.int 2 t0, u]) ∈ news ∧ NoTxt news u
theorem CallIs.mono {news news' : List Cell} {v : Value} {c : Call4} (h : CallIs news v c) (hs : ∀ p ∈ news, p ∈ news') : CallIs news' v c := by
  cases c with
  | tell kd y => obtain ⟨a, t0, t, e, hm⟩ := h; exact ⟨a, t0, t, e, hs _ hm⟩
  | text y => obtain ⟨a, t0, t, e, hm⟩ := h; exact ⟨a, t0, t, e, hs _ hm⟩
  | bad => obtain ⟨a, t0, u, e, hm, hn⟩ := h; exact ⟨a, t0, u, e, hs _ hm, hn.mono hs⟩
inductive CallsAre (news : List Cell) : List Value → List Call4 → Prop
  | nil : CallsAre news [] []
  | cons {v c vs cs} : CallIs news v c → CallsAre news vs cs → CallsAre news (v :: vs) (c :: cs)
theorem CallsAre.mono {news news' : List Cell} {vs : List Value} {cs : List Call4} (h : CallsAre news vs cs) (hs : ∀ p ∈ news, p ∈ news') : CallsAre news' vs cs := by
  induction h with
  | nil => exact .nil
  | cons h _ ih => exact .cons (h.mono hs) ih
theorem CallsAre.app {news : List Cell} {vs vs' : List Value} {cs cs' : List Call4} (h : CallsAre news vs cs) (h' : CallsAre news vs' cs') : CallsAre news (vs ++ vs') (cs ++ cs') := by
  induction h with
  | nil => exact h'
  | cons h _ ih => exact .cons h ih
theorem CallsAre.len {news : List Cell} {vs : List Value} {cs : List Call4} (h : CallsAre news vs cs) : vs.length = cs.length := by
  induction h with
  | nil => rfl
  | cons _ _ ih => simp [ih]
def Abx (t : Str) : Prop := t ∈ [(Str.ofString "a"), (Str.ofString "b"), (Str.ofString "x")]
def Txt5 (t : Str) : Prop := t ∈ [(Str.ofString "t"), (Str.ofString " "), (Str.ofString "&"), (Str.ofString ""), (Str.ofString "u v")]
/-- one call told, the elements that stand (without the root) ahead and behind -/
inductive Step4 : List Str → Call4 → List Str → Prop
  | opn {ts t} : Abx t → Step4 ts (.tell 0 t) (ts ++ [t])
  | cls {ts t} : Abx t → Step4 (ts ++ [t]) (.tell 1 t) ts
  | bad {ts} : Step4 ts .bad ts
  | oth {ts kd} : kd ∈ [3, 4, 5] → Step4 ts (.tell kd (Str.ofString "c")) ts
  | txt {ts y} : Txt5 y → Step4 ts (.text y) ts
inductive Fw : List Str → List Call4 → List Str → Prop
  | nil {ts} : Fw ts [] ts
  | cons {ts c ts' cs ts''} : Step4 ts c ts' → Fw ts' cs ts'' → Fw ts (c :: cs) ts''
theorem Fw.snoc {ts ts' ts'' : List Str} {cs : List Call4} {c : Call4} (h : Fw ts cs ts') (hs : Step4 ts' c ts'') : Fw ts (cs ++ [c]) ts'' := by
  induction h with
  | nil => exact .cons hs .nil
  | cons h _ ih => exact .cons h (ih hs)
theorem Fw.app {ts ts' ts'' : List Str} {cs cs' : List Call4} (h : Fw ts cs ts') (hs : Fw ts' cs' ts'') : Fw ts (cs ++ cs') ts'' := by
  induction h with
  | nil => exact hs
  | cons h _ ih => exact .cons h (ih hs)
theorem fmod_range (x n : Int) (hn : 0 < n) : 0 ≤ x.fmod n ∧ x.fmod n < n := by
  rw [Int.fmod_eq_emod_of_nonneg x (Int.le_of_lt hn)]
  exact ⟨Int.emod_nonneg _ (by omega), Int.emod_lt_of_pos _ hn⟩
theorem pick (l : List Value) (k : Int) (h0 : 0 ≤ k) (h1 : k < l.length) : ∃ v, l[k.toNat]? = some v ∧ v ∈ l := by
  have : k.toNat < l.length := by omega
  exact ⟨l[k.toNat], List.getElem?_eq_getElem this, List.getElem_mem this⟩
section
variable {w : World} {A : Around} {E : Value → Shared → Prop} {s : Shared} {R : Result → Shared → Prop} {B : Heap} {os : OsState} {G : Array GenState} {L : Addr} {m : Str → Option Value} {rest news W T : List Cell} {wc sp : Bool} {x da pl : Addr} {b : Abs}
theorem and2 {e1 e2 : PySem.Expr} {env : Env} {pos : Pos} {whole : Sem Value} {b1 b2 : Bool} {Q : Bool → Shared → Prop} (S : St B os G L m news s) (h1 : ∀ s, St B os G L m news s → wpAny (model prog4 w) A (isTrue e1 env (eval e1 env)) (fun b s' => b = b1 ∧ St B os G L m news s') E s)
    (h2 : ∀ s, St B os G L m news s → wpAny (model prog4 w) A (isTrue e2 env (eval e2 env)) (fun b s' => b = b2 ∧ St B os G L m news s') E s) (h : ∀ s', St B os G L m news s' → Q (b1 && b2) s') : wpAny (model prog4 w) A (isTrue (.BoolOp .And [e1, e2] pos) env whole) Q E s := by
  refine wpAny_isTrue_BoolOp (wpAny_allTrue_And_cons (wpAny_mono (h1 s S) ?_ fun _ _ z => z))
  rintro b s ⟨rfl, S⟩
  cases b with
  | false => exact ifF rfl (h _ S)
  | true =>
    refine ifT rfl (wpAny_allTrue_And_cons (wpAny_mono (h2 s S) ?_ fun _ _ z => z))
    rintro b s ⟨rfl, S⟩
    cases b with
    | false => exact ifF rfl (h _ S)
    | true => exact ifT rfl (wpAny_allTrue_And_nil (h _ S))
theorem cmpEq {k n : Int} {t : Tok} {nm : Str} {p1 p2 p3 : Pos} {c : Nat} {qual : Str} {scope : Scope} {f : Addr} {cd : Value} {whole : Sem Value} {Q : Bool → Shared → Prop} (S : St B os G L m news s) (hm : m nm = some (.int k t)) (h : ∀ s', St B os G L m news s' → Q (k == n) s') (hsk : scope.kind = .function := by rfl) (hl : (envOf qual scope L f cd).kindOf nm = some .local := by rfl) (hd : (nm == ("__debug__" : Str)) = false := by decide) :
    wpAny (model prog4 w) A (isTrue (.Compare (.Name nm p1) [.Eq] [.Constant (.int n) c p2] p3) (envOf qual scope L f cd) whole) Q E s :=
  wpAny_isTrue_Compare1 (ld S.F hm (cInt S (fun _ s S => PySem.P.eq_int (wpAny_truthy_bool (h _ S)))) hsk hl hd)
theorem cmpLt {k n : Int} {t : Tok} {nm : Str} {p1 p2 p3 : Pos} {c : Nat} {qual : Str} {scope : Scope} {f : Addr} {cd : Value} {whole : Sem Value} {Q : Bool → Shared → Prop} (S : St B os G L m news s) (hm : m nm = some (.int k t)) (h : ∀ s', St B os G L m news s' → Q (decide (k < n)) s') (hsk : scope.kind = .function := by rfl) (hl : (envOf qual scope L f cd).kindOf nm = some .local := by rfl) (hd : (nm == ("__debug__" : Str)) = false := by decide) :
    wpAny (model prog4 w) A (isTrue (.Compare (.Name nm p1) [.Lt] [.Constant (.int n) c p2] p3) (envOf qual scope L f cd) whole) Q E s :=
  wpAny_isTrue_Compare1 (ld S.F hm (cInt S (fun _ s S => PyProof.Rows.lt_int (wpAny_truthy_bool (h _ S)))) hsk hl hd)
theorem cmpGt {k n : Int} {t : Tok} {nm : Str} {p1 p2 p3 : Pos} {c : Nat} {qual : Str} {scope : Scope} {f : Addr} {cd : Value} {whole : Sem Value} {Q : Bool → Shared → Prop} (S : St B os G L m news s) (hm : m nm = some (.int k t)) (h : ∀ s', St B os G L m news s' → Q (decide (n < k)) s') (hsk : scope.kind = .function := by rfl) (hl : (envOf qual scope L f cd).kindOf nm = some .local := by rfl) (hd : (nm == ("__debug__" : Str)) = false := by decide) :
    wpAny (model prog4 w) A (isTrue (.Compare (.Name nm p1) [.Gt] [.Constant (.int n) c p2] p3) (envOf qual scope L f cd) whole) Q E s :=
  wpAny_isTrue_Compare1 (ld S.F hm (cInt S (fun _ s S => PyProof.Rows.gt_int (wpAny_truthy_bool (h _ S)))) hsk hl hd)
theorem lenLt {n : Int} {D : Addr} {l : List Value} {nn : Nat} {nm : Str} {p0 p1 p2 p3 p4 : Pos} {c : Nat} {qual : Str} {scope : Scope} {f : Addr} {cd : Value} {whole : Sem Value} {Q : Bool → Shared → Prop} (C : Cx (hd.heap_39 w.params) B) (S : St B os G L m news s) (hm : m nm = some (.ref D)) (hD : (D, listOf l.toArray nn) ∈ news) (hz : l.length < 100000) (h : ∀ s', St B os G L m news s' → Q (decide ((l.length : Int) < n)) s') (hsk : scope.kind = .function := by rfl) (hl : (envOf qual scope L f cd).kindOf nm = some .local := by rfl) (hd : (nm == ("__debug__" : Str)) = false := by decide)
    (hlen : (envOf qual scope L f cd).kindOf (Str.ofString "len") = some .globalImplicit := by rfl) :
    wpAny (model prog4 w) A (isTrue (.Compare (.Call (.Name (Str.ofString "len") p0) [.Name nm p1] [] p4) [.Lt] [.Constant (.int n) c p2] p3) (envOf qual scope L f cd) whole) Q E s := by
  refine wpAny_isTrue_Compare1 (wpAny_Call_ofName (bltS C S (by k_is) PySem.boot_len (by decide) ?_ hsk hlen))
  refine PyProof.Rows.callWith_builtin1 (spliced_more (ld S.F hm (spliced_none ?_) hsk hl hd))
  exact lenL S hD (by omega) (fun _ s S => cInt S (fun _ s S => PyProof.Rows.lt_int (wpAny_truthy_bool (h _ S))))
theorem lenGt {n : Int} {D : Addr} {l : List Value} {nn : Nat} {nm : Str} {p0 p1 p2 p3 p4 : Pos} {c : Nat} {qual : Str} {scope : Scope} {f : Addr} {cd : Value} {whole : Sem Value} {Q : Bool → Shared → Prop} (C : Cx (hd.heap_39 w.params) B) (S : St B os G L m news s) (hm : m nm = some (.ref D)) (hD : (D, listOf l.toArray nn) ∈ news) (hz : l.length < 100000) (h : ∀ s', St B os G L m news s' → Q (decide (n < (l.length : Int))) s') (hsk : scope.kind = .function := by rfl) (hl : (envOf qual scope L f cd).kindOf nm = some .local := by rfl) (hd : (nm == ("__debug__" : Str)) = false := by decide)
    (hlen : (envOf qual scope L f cd).kindOf (Str.ofString "len") = some .globalImplicit := by rfl) :
    wpAny (model prog4 w) A (isTrue (.Compare (.Call (.Name (Str.ofString "len") p0) [.Name nm p1] [] p4) [.Gt] [.Constant (.int n) c p2] p3) (envOf qual scope L f cd) whole) Q E s := by
  refine wpAny_isTrue_Compare1 (wpAny_Call_ofName (bltS C S (by k_is) PySem.boot_len (by decide) ?_ hsk hlen))
  refine PyProof.Rows.callWith_builtin1 (spliced_more (ld S.F hm (spliced_none ?_) hsk hl hd))
  exact lenL S hD (by omega) (fun _ s S => cInt S (fun _ s S => PyProof.Rows.gt_int (wpAny_truthy_bool (h _ S))))
theorem OutIs.unsnoc {vs : List Value} {l : List Str} {x : Str} (h : OutIs vs (l ++ [x])) : ∃ vs' t, vs = vs' ++ [.str x t] ∧ OutIs vs' l := by
  obtain ⟨ps, rfl, hp⟩ := h
  rcases List.eq_nil_or_concat ps with rfl | ⟨qs, q, rfl⟩
  · simp at hp
  · rw [List.concat_eq_append] at hp ⊢
    rw [List.map_append] at hp
    obtain ⟨e1, e2⟩ := List.append_inj' hp rfl
    refine ⟨strValues qs, q.2, ?_, qs, rfl, e1⟩
    simp only [List.map_cons, List.map_nil, List.cons.injEq, and_true] at e2
    simp [strValues, e2]
theorem starTup {elts : List PySem.Expr} {k : Nat} {p : Pos} {rest : List PySem.Expr} {env : Env} : starEach (.Tuple elts k p :: rest) env = (false, eval (.Tuple elts k p) env) :: starEach rest env := rfl
theorem starLst {elts : List PySem.Expr} {p : Pos} {rest : List PySem.Expr} {env : Env} : starEach (.List elts p :: rest) env = (false, eval (.List elts p) env) :: starEach rest env := rfl
theorem starSub {a b : PySem.Expr} {p : Pos} {rest : List PySem.Expr} {env : Env} : starEach (.Subscript a b p :: rest) env = (false, eval (.Subscript a b p) env) :: starEach rest env := rfl
theorem starCon {c : Const} {k : Nat} {p : Pos} {rest : List PySem.Expr} {env : Env} : starEach (.Constant c k p :: rest) env = (false, eval (.Constant c k p) env) :: starEach rest env := rfl
theorem starCall {a : PySem.Expr} {b : List PySem.Expr} {c : List Keyword} {p : Pos} {rest : List PySem.Expr} {env : Env} : starEach (.Call a b c p :: rest) env = (false, eval (.Call a b c p) env) :: starEach rest env := rfl
theorem starBin {a b : PySem.Expr} {o : Operator} {p : Pos} {rest : List PySem.Expr} {env : Env} : starEach (.BinOp a o b p :: rest) env = (false, eval (.BinOp a o b p) env) :: starEach rest env := rfl
theorem starNm {a : Str} {p : Pos} {rest : List PySem.Expr} {env : Env} : starEach (.Name a p :: rest) env = (false, eval (.Name a p) env) :: starEach rest env := rfl
theorem spTup {M : Model} {env : Env} {pos : Pos} {Q : List Value → Shared → Prop} {rest : List PySem.Expr} {elts : List PySem.Expr} {k : Nat} {p : Pos} (h : wpAny M A (eval (.Tuple elts k p) env) (fun v s₁ => wpAny M A (spliced (backTo pos (starEach rest env))) (fun vs s₂ => Q (v :: vs) s₂) E s₁) E s) : wpAny M A (spliced (backTo pos (starEach (.Tuple elts k p :: rest) env))) Q E s := spliced_more h starTup
theorem spLst {M : Model} {env : Env} {pos : Pos} {Q : List Value → Shared → Prop} {rest : List PySem.Expr} {elts : List PySem.Expr} {p : Pos} (h : wpAny M A (eval (.List elts p) env) (fun v s₁ => wpAny M A (spliced (backTo pos (starEach rest env))) (fun vs s₂ => Q (v :: vs) s₂) E s₁) E s) : wpAny M A (spliced (backTo pos (starEach (.List elts p :: rest) env))) Q E s := spliced_more h starLst
theorem spSub {M : Model} {env : Env} {pos : Pos} {Q : List Value → Shared → Prop} {rest : List PySem.Expr} {a b : PySem.Expr} {p : Pos} (h : wpAny M A (eval (.Subscript a b p) env) (fun v s₁ => wpAny M A (spliced (backTo pos (starEach rest env))) (fun vs s₂ => Q (v :: vs) s₂) E s₁) E s) : wpAny M A (spliced (backTo pos (starEach (.Subscript a b p :: rest) env))) Q E s := spliced_more h starSub
theorem spCon {M : Model} {env : Env} {pos : Pos} {Q : List Value → Shared → Prop} {rest : List PySem.Expr} {c : Const} {k : Nat} {p : Pos} (h : wpAny M A (eval (.Constant c k p) env) (fun v s₁ => wpAny M A (spliced (backTo pos (starEach rest env))) (fun vs s₂ => Q (v :: vs) s₂) E s₁) E s) : wpAny M A (spliced (backTo pos (starEach (.Constant c k p :: rest) env))) Q E s := spliced_more h starCon
theorem spBin {M : Model} {env : Env} {pos : Pos} {Q : List Value → Shared → Prop} {rest : List PySem.Expr} {a b : PySem.Expr} {o : Operator} {p : Pos} (h : wpAny M A (eval (.BinOp a o b p) env) (fun v s₁ => wpAny M A (spliced (backTo pos (starEach rest env))) (fun vs s₂ => Q (v :: vs) s₂) E s₁) E s) : wpAny M A (spliced (backTo pos (starEach (.BinOp a o b p :: rest) env))) Q E s := spliced_more h starBin
theorem spCall {M : Model} {env : Env} {pos : Pos} {Q : List Value → Shared → Prop} {rest : List PySem.Expr} {a : PySem.Expr} {b : List PySem.Expr} {c : List Keyword} {p : Pos} (h : wpAny M A (eval (.Call a b c p) env) (fun v s₁ => wpAny M A (spliced (backTo pos (starEach rest env))) (fun vs s₂ => Q (v :: vs) s₂) E s₁) E s) : wpAny M A (spliced (backTo pos (starEach (.Call a b c p :: rest) env))) Q E s := spliced_more h starCall
theorem spNm {M : Model} {env : Env} {pos : Pos} {Q : List Value → Shared → Prop} {rest : List PySem.Expr} {a : Str} {p : Pos} (h : wpAny M A (eval (.Name a p) env) (fun v s₁ => wpAny M A (spliced (backTo pos (starEach rest env))) (fun vs s₂ => Q (v :: vs) s₂) E s₁) E s) : wpAny M A (spliced (backTo pos (starEach (.Name a p :: rest) env))) Q E s := spliced_more h starNm
theorem cmTup {M : Model} {env : Env} {pos : Pos} {id : String} {first : List Value} {Q : Value → Shared → Prop} {elts : List PySem.Expr} {k : Nat} {p : Pos} (h : wpAny M A (eval (.Tuple elts k p) env) (fun v s₁ => wpAny M A (call (.builtin id) (first ++ [v])) Q E s₁) E s) :
    wpAny M A (callWith pos (.builtin id) first (backTo pos (starEach [.Tuple elts k p] env)) []) Q E s :=
  callWith_method1 (spTup (wpAny_mono h (fun v s₁ h₁ => spliced_none h₁) fun _ _ z => z)) starTup
theorem cBytes {prog : Program} {bs : List UInt8} {kk : Nat} {pos : Pos} {env : Env} {Q : Value → Shared → Prop} (S : St B os G L m news s) (h : ∀ b t s', St B os G L m news s' → Q (.bytes b t) s') : wpAny (model prog w) A (eval (.Constant (.bytes bs) kk pos) env) Q E s := by
  exact fun _ _ _ => h _ _ _ (S.tk (t := s.toks + 1))
set_option maxHeartbeats 1000000 in
/-- what is no text, told -/
theorem appBad {cl : Addr} {vs : List Value} {nc : Nat} {more : Int} {tm : Tok} {p1 p2 p3 p4 p5 p6 p7 p8 p9 p10 p11 p12 p13 p14 p15 p16 p17 p18 p19 : Pos} {qual : Str} {scope : Scope} {f : Addr} {cd : Value} {Q : Flow → Shared → Prop} {bs : List UInt8} {news' : Value → List Cell} (S : St B os G L m news s) (ec : m (Str.ofString "calls") = some (.ref cl)) (em : m (Str.ofString "more") = some (.int more tm)) (U : ∀ v, Up cl (listOf vs.toArray nc) (listOf (vs ++ [v]).toArray (nc + 1)) news (news' v)) (hz : vs.length < 1000)
    (hsk : scope.kind = .function) (hl1 : (envOf qual scope L f cd).kindOf (Str.ofString "calls") = some .local) (hl2 : (envOf qual scope L f cd).kindOf (Str.ofString "more") = some .local) (hline : (p2.endLine == p18.line) = true)
    (h : ∀ v c1 c2 c3 s', CallIs [c1, c2, c3] v .bad → St B os G L m ([c1, c2, c3] ++ news' v) s' → Q .next s') :
    wpAny (model prog4 w) A (exec (.Expr (.Call (.Attribute (.Name (Str.ofString "calls") p1) (Str.ofString "append") p2) [.Tuple [.Constant (.int 2) 0 p3, .Subscript (.List [.Constant (.int 7) 0 p4, .Constant .none 0 p5, .Constant (.bytes bs) 0 p6, .List [.Constant (.str (Str.ofString "t")) 0 p7] p8, .Tuple [.Constant (.str (Str.ofString "t")) 0 p9] 0 p10, .Constant (.bool true) 0 p11] p12) (.BinOp (.Name (Str.ofString "more") p13) .Mod (.Constant (.int 6) 0 p14) p15) p16] 0 p17] [] p18) p19) (envOf qual scope L f cd)) Q E s := by
  refine wpAny_Expr_any ?_ (by show (scope.kind == .module && (scope.more.any _)) = false; rw [hsk]; rfl) (by rfl)
  refine methodCall_S rfl (by rw [starTup]; rfl) hline (ld S.F ec (fun pl => ?_) hsk hl1)
  refine appM S (U .none).mem ?_
  refine cmTup ?_
  refine Tuple_ ?_
  refine spCon ?_
  refine cInt S (fun t6 s S => ?_)
  refine spSub ?_
  refine Subscript_ ?_
  refine List_ ?_
  refine spCon ?_
  refine cInt S (fun t7 s S => ?_)
  refine spCon ?_
  refine wpAny_Constant_none ?_
  refine spCon ?_
  refine cBytes S (fun bb tb s S => ?_)
  refine spLst ?_
  refine List_ ?_
  refine spCon ?_
  refine cStr S (fun t8 s S => ?_)
  refine spliced_none ?_
  refine listS S (fun il s S => ?_)
  refine spTup ?_
  refine Tuple_ ?_
  refine spCon ?_
  refine cStr S (fun t9 s S => ?_)
  refine spliced_none ?_
  refine tupS S (fun it2 s S => ?_)
  refine spCon ?_
  refine wpAny_Constant_bool ?_
  refine spliced_none ?_
  refine listS S (fun ml s S => ?_)
  refine wpAny_BinOp (ld S.F em ?_ hsk hl2)
  refine cInt S (fun _ s S => modS S (by decide) (fun _ s S => ?_))
  obtain ⟨q0, q3⟩ := fmod_range more 6 (by decide)
  obtain ⟨pv, hpv, hpm⟩ := pick [Value.int 7 t7, Value.none, Value.bytes bb tb, Value.ref il, Value.ref it2, Value.bool true] (more.fmod 6) q0 (by simpa using q3)
  refine itemL S (List.Mem.head _) q0 hpv ?_
  refine spliced_none ?_
  have S := S.drop (List.sublist_cons_self _ _)
  refine tupS S (fun tup s S => ?_)
  refine appendL S (.tail (.tail (.tail (U _)))) (fun s S => ?_) (by omega)
  refine h (.ref tup) _ _ _ _ ⟨tup, t6, pv, rfl, .head _, ?_⟩ S
  simp only [List.mem_cons, List.not_mem_nil, or_false] at hpm
  rcases hpm with rfl | rfl | rfl | rfl | rfl | rfl
  · exact .int
  · exact .none
  · exact .bytes
  · exact .list (.tail _ (.tail _ (.head _)))
  · exact .tup (.tail _ (.head _))
  · exact .bool
set_option maxHeartbeats 1000000 in
/-- a text told -/
theorem appTxt {cl : Addr} {vs : List Value} {nc : Nat} {more : Int} {tm : Tok} {p1 p2 p3 p4 p5 p6 p7 p8 p12 p13 p14 p15 p16 p17 p18 p19 : Pos} {qual : Str} {scope : Scope} {f : Addr} {cd : Value} {Q : Flow → Shared → Prop} {news' : Value → List Cell} (S : St B os G L m news s) (ec : m (Str.ofString "calls") = some (.ref cl)) (em : m (Str.ofString "more") = some (.int more tm)) (U : ∀ v, Up cl (listOf vs.toArray nc) (listOf (vs ++ [v]).toArray (nc + 1)) news (news' v)) (hz : vs.length < 1000)
    (hsk : scope.kind = .function) (hl1 : (envOf qual scope L f cd).kindOf (Str.ofString "calls") = some .local) (hl2 : (envOf qual scope L f cd).kindOf (Str.ofString "more") = some .local) (hline : (p2.endLine == p18.line) = true)
    (h : ∀ v c1 y s', Txt5 y → CallIs [c1] v (.text y) → St B os G L m ([c1] ++ news' v) s' → Q .next s') :
    wpAny (model prog4 w) A (exec (.Expr (.Call (.Attribute (.Name (Str.ofString "calls") p1) (Str.ofString "append") p2) [.Tuple [.Constant (.int 2) 0 p3, .Subscript (.List [.Constant (.str (Str.ofString "t")) 0 p4, .Constant (.str (Str.ofString " ")) 0 p5, .Constant (.str (Str.ofString "&")) 0 p6, .Constant (.str (Str.ofString "")) 0 p7, .Constant (.str (Str.ofString "u v")) 0 p8] p12) (.BinOp (.Name (Str.ofString "more") p13) .Mod (.Constant (.int 5) 0 p14) p15) p16] 0 p17] [] p18) p19) (envOf qual scope L f cd)) Q E s := by
  refine wpAny_Expr_any ?_ (by show (scope.kind == .module && (scope.more.any _)) = false; rw [hsk]; rfl) (by rfl)
  refine methodCall_S rfl (by rw [starTup]; rfl) hline (ld S.F ec (fun pl => ?_) hsk hl1)
  refine appM S (U .none).mem ?_
  refine cmTup ?_
  refine Tuple_ ?_
  refine spCon ?_
  refine cInt S (fun t6 s S => ?_)
  refine spSub ?_
  refine Subscript_ ?_
  refine List_ ?_
  refine spCon ?_
  refine cStr S (fun u1 s S => ?_)
  refine spCon ?_
  refine cStr S (fun u2 s S => ?_)
  refine spCon ?_
  refine cStr S (fun u3 s S => ?_)
  refine spCon ?_
  refine cStr S (fun u4 s S => ?_)
  refine spCon ?_
  refine cStr S (fun u5 s S => ?_)
  refine spliced_none ?_
  refine listS S (fun ml s S => ?_)
  refine wpAny_BinOp (ld S.F em ?_ hsk hl2)
  refine cInt S (fun _ s S => modS S (by decide) (fun _ s S => ?_))
  obtain ⟨q0, q3⟩ := fmod_range more 5 (by decide)
  obtain ⟨pv, hpv, hpm⟩ := pick [Value.str (Str.ofString "t") u1, Value.str (Str.ofString " ") u2, Value.str (Str.ofString "&") u3, Value.str (Str.ofString "") u4, Value.str (Str.ofString "u v") u5] (more.fmod 5) q0 (by simpa using q3)
  obtain ⟨y, ty, rfl, hy⟩ : ∃ y ty, pv = .str y ty ∧ Txt5 y := by
    simp only [List.mem_cons, List.not_mem_nil, or_false] at hpm
    rcases hpm with rfl | rfl | rfl | rfl | rfl
    · exact ⟨_, _, rfl, .head _⟩
    · exact ⟨_, _, rfl, .tail _ (.head _)⟩
    · exact ⟨_, _, rfl, .tail _ (.tail _ (.head _))⟩
    · exact ⟨_, _, rfl, .tail _ (.tail _ (.tail _ (.head _)))⟩
    · exact ⟨_, _, rfl, .tail _ (.tail _ (.tail _ (.tail _ (.head _))))⟩
  refine itemL S (List.Mem.head _) q0 hpv ?_
  refine spliced_none ?_
  have S := S.drop (List.sublist_cons_self _ _)
  refine tupS S (fun tup s S => ?_)
  refine appendL S (.tail (U _)) (fun s S => ?_) (by omega)
  exact h (.ref tup) _ y _ hy ⟨tup, t6, ty, rfl, .head _⟩ S
end
end Mine
end
section
open PySem PySem.W PySem.Calls PyProof.Rows
set_option Elab.async false
set_option maxRecDepth 100000
set_option linter.unusedVariables false
namespace Mine
local macro_rules | `(tactic| walk_at "mem") => `(tactic| (repeat (first | assumption | exact List.Mem.head _ | refine List.Mem.tail _ ?_)))
local macro_rules | `(tactic| walk_at "up") => `(tactic| (repeat (first | exact Up.head | refine Up.tail ?_)))
section
variable {w : World} {A : Around} {E : Value → Shared → Prop} {s : Shared} {R : Result → Shared → Prop} {B : Heap} {os : OsState} {G : Array GenState} {L : Addr} {m : Str → Option Value} {rest news W T : List Cell} {wc sp : Bool} {x da pl : Addr} {b : Abs}
theorem starCmp {elt : PySem.Expr} {gs : List Comprehension} {sc : Scope} {p : Pos} {rest : List PySem.Expr} {env : Env} : starEach (.ListComp elt gs sc p :: rest) env = (false, eval (.ListComp elt gs sc p) env) :: starEach rest env := rfl
theorem spCmp {M : Model} {env : Env} {pos : Pos} {Q : List Value → Shared → Prop} {rest : List PySem.Expr} {elt : PySem.Expr} {gs : List Comprehension} {sc : Scope} {p : Pos} (h : wpAny M A (eval (.ListComp elt gs sc p) env) (fun v s₁ => wpAny M A (spliced (backTo pos (starEach rest env))) (fun vs s₂ => Q (v :: vs) s₂) E s₁) E s) : wpAny M A (spliced (backTo pos (starEach (.ListComp elt gs sc p :: rest) env))) Q E s := spliced_more h starCmp
/-- between two turns of the loop of _law_calls -/
structure JC (B : Heap) (cl st : Addr) (fix : List Cell) (rem : List Value) (m : Str → Option Value) (news : List Cell) : Prop where
  nums : ∃ ns : List Int, IntsAre rem ns
  mc : m (Str.ofString "calls") = some (.ref cl)
  ms : m (Str.ofString "standing") = some (.ref st)
  ex : ∃ cs ts vs sv nc ns CC, news = (cl, listOf vs.toArray nc) :: (st, listOf sv.toArray ns) :: (CC ++ fix) ∧ CallsAre CC vs (.tell 0 (Str.ofString "r") :: cs) ∧ OutIs sv ((Str.ofString "r") :: ts) ∧ Fw [] cs ts ∧ (∀ t ∈ ts, Abx t) ∧ cs.length + rem.length ≤ 66 ∧ ts.length ≤ 6
set_option maxHeartbeats 4000000 in
theorem calls_spec {sa : Addr} {vs : List Value} {ns : List Int} (C : Cx (hd.heap_39 w.params) B) (hroom : A.depth + 4 < recursionLimit) (hh : A.handled = none) (S : St B os G L m rest s) (hs : B.IsList sa vs.toArray) (hi : IntsAre vs ns) (hn : ns.length ≤ 63)
    (k : ∀ cl vs' nc CC cs ts s', CallsAre CC vs' (.tell 0 (Str.ofString "r") :: (cs ++ [.bad] ++ ts.reverse.map (.tell 1) ++ [.tell 1 (Str.ofString "r"), .bad, .tell 3 (Str.ofString "z"), .tell 4 (Str.ofString "z")])) → Fw [] cs ts → (∀ t ∈ ts, Abx t) → cs.length ≤ 66 → ts.length ≤ 6 → St B os G L m ((cl, listOf vs'.toArray nc) :: (CC ++ rest)) s' → R (.ok (.ret (.ref cl))) s') :
    codeAny (model prog4 w) A (.call (.ref 180) ⟨[.ref sa], []⟩) R s := by
  have hlen : vs.length ≤ 63 := by rw [hi.length]; exact hn
  refine' call_fn (K := hd.heap_39 w.params) (binds := [((Str.ofString "script"), .ref sa)]) S C.X C.lim ?ho ?hcd ?hroom ?hbind ?hloc (fun L' oL s fc_ S => ?_) ?hco ?hgen ?hk ?hcell
  case ho => k_is
  case hcd => k_is
  case hco => rfl
  case hgen => rfl
  case hk => rfl
  case hcell => decide
  case hroom => first | omega | (simp only [depth_deeper]; omega) | (simp only [depth_deeper, depth_in1]; omega)
  case hbind => exact BindsTo.of_eq rfl
  case hloc => exact locs rfl
  simp only [List.reverse_cons, List.reverse_nil, List.nil_append, List.cons_append] at S
  refine wpAny_execs_cons (wpAny_Assign_Name (List_ (spliced_more (Tuple_ (spliced_more (cInt S (fun t0 s S => spliced_more (cStr S (fun t1 s S => spliced_none (tupS S (fun c0 s S => spliced_none (listS S (fun cl s S => stS S (fun s S => ?_))))))))))))))
  refine wpAny_execs_cons (wpAny_Assign_Name (List_ (spliced_more (cStr S (fun t2 s S => spliced_none (listS S (fun st s S => stS S (fun s S => ?_))))))))
  refine wpAny_execs_cons (wpAny_For (wpAny_BinOp (List_ ?_)))
  refine spliced_more (cInt S (fun t3 s S => spliced_more (cInt S (fun t4 s S => spliced_more (cInt S (fun t5 s S => spliced_none ?_))))))
  refine listS S (fun h3 s S => ld S.F (by rfl) ?_)
  refine addL (vs := [.int 18 t3, .int 4 t4, .int 8 t5]) (ws := vs) S (listOf_isList (S.get (List.Mem.head _))) (S.F.lst hs) (by simp; omega) (fun xl s S => ?_)
  have S := S.drop (.cons_cons _ (.cons _ (.refl _)))
  refine iterL S (.head _) (fun it oit s hit S => ?_)
  have hix : IntsAre ([Value.int 18 t3, Value.int 4 t4, Value.int 8 t5] ++ vs) ([18, 4, 8] ++ ns) := .cons _ _ (.cons _ _ (.cons _ _ hi))
  have hxl : ([Value.int 18 t3, Value.int 4 t4, Value.int 8 t5] ++ vs).length ≤ 66 := by simp; omega
  generalize ([Value.int 18 t3, Value.int 4 t4, Value.int 8 t5] ++ vs) = xs at S hix hxl
  have S : St B os G L' _ ((it, oit) :: (cl, listOf [Value.ref c0].toArray 0) :: (st, listOf [Value.str (Str.ofString "r") t2].toArray 0) :: ([(c0, tupO #[Value.int 0 t0, Value.str (Str.ofString "r") t1])] ++ ((xl, listOf xs.toArray 0) :: (L, oL) :: rest))) s :=
    S.perm (List.Perm.cons _ ((List.Perm.swap ..).trans ((List.Perm.cons _ (List.Perm.swap ..)).trans ((List.Perm.swap ..).trans (List.Perm.cons _ (List.Perm.cons _ (List.Perm.swap ..)))))))
  refine forL (vs := xs) (n := 0) (l := xl) (fun rem G' m news => G' = G ∧ JC B cl st ((xl, listOf xs.toArray 0) :: (L, oL) :: rest) rem m news) hh S hit ⟨rfl, ⟨_, hix⟩, by rfl, by rfl, [], [], [.ref c0], [.str (Str.ofString "r") t2], 0, 0, _, rfl, .cons ⟨c0, t0, t1, rfl, .head _⟩ .nil, ⟨[((Str.ofString "r"), t2)], rfl, rfl⟩, .nil, (fun _ h => nomatch h), by simpa using hxl, by decide⟩ ?_ ?_ ?_
  · rintro rem G' m' news' ⟨_, hJ⟩
    obtain ⟨cs, ts, vs', sv, nc, ns', CC, rfl, _⟩ := hJ.ex
    exact .tail _ (.tail _ (List.mem_append.mpr (.inr (.head _))))
  · rintro v rem G' m' news' oit' s ⟨rfl, hJ⟩ S
    obtain ⟨⟨nn, hints⟩, mc, ms, cs, ts, vs', sv, nc, ns', CC, rfl, hca, hsv, hfw, habx, hlen2, hts⟩ := hJ
    cases hints with
    | cons x tx hrem =>
    refine wpAny_execs_cons (Assign_Tuple_swapped (names := [(Str.ofString "kind"), (Str.ofString "more")]) (Tuple_ (spliced_more (wpAny_BinOp (ld S.F (by rfl) (cInt S (fun _ s S => modS S (by decide) (fun tk s S => ?_))))))))
    refine spliced_more (wpAny_BinOp (ld S.F (by rfl) (cInt S (fun _ s S => fdivS S (by decide) (by decide) (fun tm s S => spliced_none (tupS S (fun ta s S => ?_)))))))
    refine swap2S S hh (.head _) (fun s S => ?_)
    have S := S.drop (List.sublist_cons_self _ _)
    obtain ⟨hk0, hk8⟩ := fmod_range x 8 (by decide)
    generalize hkd : x.fmod 8 = kd at S hk0 hk8
    generalize x.fdiv 8 = more at S
    obtain ⟨m2, S, ek, em, ec, es⟩ : ∃ m2, St B os G' L' m2 ((it, oit') :: (cl, listOf vs'.toArray nc) :: (st, listOf sv.toArray ns') :: (CC ++ ((xl, listOf xs.toArray 0) :: (L, oL) :: rest))) s ∧ m2 (Str.ofString "kind") = some (.int kd tk) ∧ m2 (Str.ofString "more") = some (.int more tm) ∧ m2 (Str.ofString "calls") = some (.ref cl) ∧ m2 (Str.ofString "standing") = some (.ref st) := ⟨_, S, by rfl, by rfl, by exact mc, by exact ms⟩
    have hsvl : sv.length = ts.length + 1 := by rw [hsv.length]; simp
    have done : ∀ {v2 : Value} {c : Call4} {ts' : List Str} {nc' ns2 : Nat} {CC' sv' s'}, CallIs CC' v2 c → Step4 ts c ts' → (∀ t ∈ ts', Abx t) → ts'.length ≤ 6 → OutIs sv' ((Str.ofString "r") :: ts') → (∀ p ∈ CC, p ∈ CC') → St B os G' L' m2 ((it, oit') :: (cl, listOf (vs' ++ [v2]).toArray nc') :: (st, listOf sv'.toArray ns2) :: (CC' ++ ((xl, listOf xs.toArray 0) :: (L, oL) :: rest))) s' →
        ∃ G'' m'' news'', (G'' = G' ∧ JC B cl st ((xl, listOf xs.toArray 0) :: (L, oL) :: rest) rem m'' news'') ∧ St B os G'' L' m'' ((it, oit') :: news'') s' := by
      intro v2 c ts' nc' ns2 CC' sv' s' hc hst hab htl hso hsub S
      refine ⟨G', m2, _, ⟨rfl, ⟨_, hrem⟩, ec, es, cs ++ [c], ts', vs' ++ [v2], sv', nc', ns2, CC', rfl, ?_, hso, hfw.snoc hst, hab, ?_, htl⟩, S⟩
      · exact (hca.mono hsub).app (.cons hc .nil)
      · simp only [List.length_append, List.length_cons, List.length_nil] at hlen2 ⊢
        omega
    show wpAny _ _ (execs _ _) _ _ _
    refine wpAny_mono (Q := fun fl s₃ => fl = .next ∧ ∃ G'' m'' news'', (G'' = G' ∧ JC B cl st ((xl, listOf xs.toArray 0) :: (L, oL) :: rest) rem m'' news'') ∧ St B os G'' L' m'' ((it, oit') :: news'') s₃) ?_ (by rintro fl s ⟨rfl, h⟩; exact h) (fun _ _ z => z)
    generalize (notedBy _ _ _ _) = E'
    have hsz : vs'.length ≤ 67 := by
      rw [hca.len]; simp only [List.length_cons] at hlen2 ⊢; omega
    have up : ∀ p ∈ CC, p ∈ CC := fun _ h => h
    refine wpAny_execs_cons (wpAny_If (and2 S (b1 := kd == 0) (b2 := decide ((sv.length : Int) < 7)) (fun s S => cmpEq S ek (fun s S => ⟨rfl, S⟩)) (fun s S => lenLt C S es (List.Mem.tail _ (List.Mem.tail _ (List.Mem.head _))) (by omega) (fun s S => ⟨rfl, S⟩)) (fun s S => ?_)))
    by_cases hc1 : ((kd == 0) && decide ((sv.length : Int) < 7)) = true
    · refine ifT hc1 ?_
      have hl7 : sv.length < 7 := by
        have := (Bool.and_eq_true_iff.mp hc1).2
        have := of_decide_eq_true this
        omega
      refine wpAny_execs_cons (wpAny_Expr_any ?_ (by rfl) (by rfl))
      refine methodCall_KW (ld S.F es (appM S (List.Mem.tail _ (List.Mem.tail _ (List.Mem.head _))) (callWith_method1 ?_ rfl)))
      refine spliced_more (Subscript_ (List_ (spliced_more (cStr S (fun ta s S => spliced_more (cStr S (fun tb s S => spliced_more (cStr S (fun tc s S => spliced_none (listS S (fun ml s S => ?_)))))))))))
      refine wpAny_BinOp (ld S.F em (cInt S (fun _ s S => modS S (by decide) (fun _ s S => ?_))))
      obtain ⟨q0, q3⟩ := fmod_range more 3 (by decide)
      obtain ⟨pv, hpv, hpm⟩ := pick [Value.str (Str.ofString "a") ta, Value.str (Str.ofString "b") tb, Value.str (Str.ofString "x") tc] (more.fmod 3) q0 (by simpa using q3)
      obtain ⟨y, ty, rfl, hy⟩ : ∃ y ty, pv = .str y ty ∧ Abx y := by
        simp only [List.mem_cons, List.not_mem_nil, or_false] at hpm
        rcases hpm with rfl | rfl | rfl
        · exact ⟨_, _, rfl, .head _⟩
        · exact ⟨_, _, rfl, .tail _ (.head _)⟩
        · exact ⟨_, _, rfl, .tail _ (.tail _ (.head _))⟩
      refine itemL S (List.Mem.head _) q0 hpv (spliced_none ?_)
      have S := S.drop (List.sublist_cons_self _ _)
      refine appendL S (Up.tail (Up.tail Up.head)) (fun s S => ?_) (by omega)
      refine wpAny_execs_cons (wpAny_Expr_any ?_ (by rfl) (by rfl))
      refine methodCall_KW (ld S.F ec (appM S (List.Mem.tail _ (List.Mem.head _)) (callWith_method1 ?_ rfl)))
      refine spliced_more (Tuple_ (spliced_more (cInt S (fun t6 s S => spliced_more (Subscript_ (ld S.F es (minus1 S (fun _ s S => lastS S (List.Mem.tail _ (List.Mem.tail _ (List.Mem.head _))) (spliced_none (tupS S (fun tup s S => spliced_none ?_)))))))))))
      refine appendL S (Up.tail (Up.tail Up.head)) (fun s S => ?_) (by omega)
      refine wpAny_execs_nil (wpAny_execs_nil ⟨rfl, done (c := .tell 0 y) (ts' := ts ++ [y]) (CC' := (tup, tupO #[.int 0 t6, .str y ty]) :: CC) ⟨tup, t6, ty, rfl, .head _⟩ (.opn hy) (fun t ht => ?_) (by simp; omega) (hsv.snoc y ty) (fun p hp => .tail _ hp) (S.perm (List.perm_middle (l₁ := [_, _, _])).symm)⟩)
      · rcases List.mem_append.mp ht with h | h
        · exact habx t h
        · rw [List.mem_singleton.mp h]; exact hy
    · refine ifF (by simpa using hc1) ?_
      refine wpAny_execs_cons (wpAny_If (and2 S (b1 := decide (kd < 2)) (b2 := decide (1 < (sv.length : Int))) (fun s S => cmpLt S ek (fun s S => ⟨rfl, S⟩)) (fun s S => lenGt C S es (List.Mem.tail _ (List.Mem.tail _ (List.Mem.head _))) (by omega) (fun s S => ⟨rfl, S⟩)) (fun s S => ?_)))
      by_cases hc2 : (decide (kd < 2) && decide (1 < (sv.length : Int))) = true
      · refine ifT hc2 ?_
        have hl2 : 1 < sv.length := by
          have := of_decide_eq_true (Bool.and_eq_true_iff.mp hc2).2
          omega
        obtain ⟨ts0, tl, rfl⟩ : ∃ ts0 tl, ts = ts0 ++ [tl] := by
          rcases List.eq_nil_or_concat ts with rfl | ⟨a, b, h⟩
          · simp at hsvl; omega
          · exact ⟨a, b, by rw [h, List.concat_eq_append]⟩
        obtain ⟨svp, tt, rfl, hsvp⟩ := OutIs.unsnoc (l := (Str.ofString "r") :: ts0) hsv
        refine wpAny_execs_cons (wpAny_Expr_any ?_ (by rfl) (by rfl))
        refine methodCall_KW (ld S.F ec (appM S (List.Mem.tail _ (List.Mem.head _)) (callWith_method1 ?_ rfl)))
        refine spliced_more (Tuple_ (spliced_more (cInt S (fun t6 s S => spliced_more (methodCall_KW (ld S.F es (popM S (List.Mem.tail _ (List.Mem.tail _ (List.Mem.head _))) (callWith_method0 ?_))))))))
        refine popL S (Up.tail (Up.tail Up.head)) (by simp at hsvl hts; omega) (fun s S => spliced_none (tupS S (fun tup s S => spliced_none ?_)))
        refine appendL S (Up.tail (Up.tail Up.head)) (fun s S => ?_) (by omega)
        have htl : Abx tl := habx tl (by simp)
        refine wpAny_execs_nil (wpAny_execs_nil (wpAny_execs_nil ⟨rfl, done (c := .tell 1 tl) (ts' := ts0) (CC' := (tup, tupO #[.int 1 t6, .str tl tt]) :: CC) ⟨tup, t6, tt, rfl, .head _⟩ (.cls htl) (fun t ht => habx t (by simp [ht])) (by simp at hts; omega) hsvp (fun p hp => .tail _ hp) (S.perm (List.perm_middle (l₁ := [_, _, _])).symm)⟩))
      · refine ifF (by simpa using hc2) ?_
        refine wpAny_execs_cons (wpAny_If (cmpEq S ek (fun s S => ?_)))
        by_cases hc3 : (kd == 4) = true
        · refine ifT hc3 ?_
          refine wpAny_execs_cons (appBad S ec em (fun v => (Up.tail Up.head)) (by omega) rfl rfl rfl rfl (fun v2 c1 c2 c3 s hv2 S => ?_))
          exact wpAny_execs_nil (wpAny_execs_nil (wpAny_execs_nil (wpAny_execs_nil ⟨rfl, done (c := .bad) (ts' := ts) (CC' := [c1, c2, c3] ++ CC) (hv2.mono fun p hp => List.mem_append.mpr (.inl hp)) .bad habx hts hsv (fun p hp => List.mem_append.mpr (.inr hp)) (S.perm (((List.perm_middle (l₁ := [c1, c2, c3])).trans (List.Perm.cons _ ((List.perm_middle (l₁ := [c1, c2, c3])).trans (List.Perm.cons _ (List.perm_middle (l₁ := [c1, c2, c3]))))))))⟩)))
        · refine ifF (by simpa using hc3) ?_
          refine wpAny_execs_cons (wpAny_If (cmpGt S ek (fun s S => ?_)))
          by_cases hc4 : decide (4 < kd) = true
          · refine ifT hc4 ?_
            have hk4 := of_decide_eq_true hc4
            refine wpAny_execs_cons (wpAny_Expr_any ?_ (by rfl) (by rfl))
            refine methodCall_KW (ld S.F ec ?_)
            refine appM S (List.Mem.tail _ (List.Mem.head _)) ?_
            refine cmTup ?_
            refine Tuple_ ?_
            refine spBin ?_
            refine wpAny_BinOp (ld S.F ek ?_)
            refine cInt S (fun _ s S => ?_)
            refine subS S (fun t6 s S => ?_)
            refine spCon ?_
            refine cStr S (fun t7 s S => ?_)
            refine spliced_none ?_
            refine tupS S (fun tup s S => ?_)
            refine appendL S (Up.tail (Up.tail Up.head)) (fun s S => ?_) (by omega)
            obtain ⟨kn, hkn, hkm⟩ : ∃ kn : Nat, kd - 2 = (kn : Int) ∧ kn ∈ [3, 4, 5] := by
              refine ⟨(kd - 2).toNat, by omega, ?_⟩
              have h1 : (kd - 2).toNat = 3 ∨ (kd - 2).toNat = 4 ∨ (kd - 2).toNat = 5 := by omega
              rcases h1 with h | h | h <;> rw [h] <;> decide
            rw [hkn] at S
            exact wpAny_execs_nil (wpAny_execs_nil (wpAny_execs_nil (wpAny_execs_nil (wpAny_execs_nil ⟨rfl, done (c := .tell kn (Str.ofString "c")) (ts' := ts) (CC' := (tup, tupO #[.int kn t6, .str (Str.ofString "c") t7]) :: CC) ⟨tup, t6, t7, rfl, .head _⟩ (.oth hkm) habx hts hsv (fun p hp => .tail _ hp) (S.perm (List.perm_middle (l₁ := [_, _, _])).symm)⟩))))
          · refine ifF (by simpa using hc4) ?_
            refine wpAny_execs_cons (appTxt S ec em (fun v => (Up.tail Up.head)) (by omega) rfl rfl rfl rfl (fun v2 c1 y s hy hv2 S => ?_))
            exact wpAny_execs_nil (wpAny_execs_nil (wpAny_execs_nil (wpAny_execs_nil (wpAny_execs_nil ⟨rfl, done (c := .text y) (ts' := ts) (CC' := [c1] ++ CC) (hv2.mono fun p hp => List.mem_append.mpr (.inl hp)) (.txt hy) habx hts hsv (fun p hp => List.mem_append.mpr (.inr hp)) (S.perm (List.perm_middle (l₁ := [_, _, _])).symm)⟩))))
  · rintro G' m' news' s ⟨rfl, hJ⟩ S
    obtain ⟨_, ec, es, cs, ts, vs', sv, nc, ns', CC, rfl, hca, hsv, hfw, habx, hlen2, hts⟩ := hJ
    have hlen2 : cs.length ≤ 66 := by simpa using hlen2
    have hsz : vs'.length ≤ 67 := by
      rw [hca.len]; simp only [List.length_cons]; omega
    clear hix hxl hi hit
    show wpAny _ _ (execs _ _) _ _ _
    refine wpAny_execs_cons (wpAny_Expr_any ?_ (by rfl) (by rfl))
    refine methodCall_KW (ld S.F ec ?_)
    refine appM S (List.Mem.head _) ?_
    refine cmTup ?_
    refine Tuple_ ?_
    refine spCon ?_
    refine cInt S (fun t6 s S => ?_)
    refine spCon ?_
    refine wpAny_Constant_none ?_
    refine spliced_none ?_
    refine tupS S (fun tb s S => ?_)
    refine appendL S (Up.tail Up.head) (fun s S => ?_) (by omega)
    refine wpAny_execs_cons (wpAny_Expr_any ?_ (by rfl) (by rfl))
    refine methodCall_KW (ld S.F ec ?_)
    refine extM S (List.Mem.tail _ (List.Mem.head _)) ?_
    refine callWith_method1 ?_ starCmp
    refine spCmp ?_
    obtain ⟨ps, rfl, hps⟩ := hsv
    have hpl : ps.length = ts.length + 1 := by
      have := congrArg List.length hps
      simpa using this
    refine compL (m := m') (B := B) (os := os) hh (by rfl) (by decide) rfl (by decide) (by rfl) (by intro _; rfl)
      (fun rem Gc news out => Gc = G' ∧ ∃ TT ds qs, news = TT ++ ((tb, tupO #[.int 2 t6, .none]) :: (cl, listOf (vs' ++ [Value.ref tb]).toArray (nc + 1)) :: (st, listOf (strValues ps).toArray ns') :: (CC ++ ((xl, listOf xs.toArray 0) :: (L, oL) :: rest))) ∧ rem = strValues qs ∧ ps.reverse = ds ++ qs ∧ CallsAre TT out (ds.map fun q => Call4.tell 1 q.1)) 100 (by decide) ?_
    refine wpAny_Call_ofName (bltS C S (by k_is) PyProof.Rows.boot_reversed (by decide) ?_)
    refine PyProof.Rows.callWith_type1 (spliced_more (ld S.F es (spliced_none ?_)))
    refine revL S (List.Mem.tail _ (List.Mem.tail _ (List.Mem.head _))) (fun it2 oit2 s hit2 S => ?_)
    have WK := fun (A' : Around) (h : A'.handled = none) => wkRev (prog := prog4) (w := w) (A := A') (B := B) (os := os) (it := it2) (l := st) (vs := strValues ps) (n := ns') h
    have hIT : ∃ post, strValues ps = (strValues ps).reverse.reverse ++ post ∧ RI oit2 st (((strValues ps).reverse.length : Int) - 1) := ⟨[], by simp, by simpa using hit2⟩
    refine (WK _ (by exact hh)).self hIT (.head _) S ?_
    refine ⟨it2, _, _, (strValues ps).reverse, oit2, G', _, rfl, WK _ (by exact hh), hIT, ⟨rfl, [], [], ps.reverse, rfl, by simp [strValues], rfl, .nil⟩, S, ?_, ?_, ?_⟩
    · rintro rem Gc news out ⟨_, TT, ds, qs, rfl, rfl, hdq, hout⟩
      refine ⟨List.mem_append.mpr (.inr (.tail _ (.tail _ (.head _)))), ?_⟩
      have h1 := hout.len
      have h2 := congrArg List.length hdq
      simp [strValues] at h1 h2 ⊢
      omega
    · rintro v rem out acc na C' oL' oit' mC Gc news s E' ⟨rfl, TT, ds, qs, rfl, hrem, hdq, hout⟩ f' hv S
      cases qs with
      | nil => simp [strValues] at hrem
      | cons q qs =>
        obtain ⟨rfl, rfl⟩ : v = .str q.1 q.2 ∧ rem = strValues qs := by simpa [strValues] using hrem
        refine wpAny_pure ?_
        rw [if_pos rfl]
        refine Tuple_ ?_
        refine spCon ?_
        refine cInt S (fun t8 s S => ?_)
        refine spNm ?_
        refine ldComp S hv ?_
        refine spliced_none ?_
        refine tupS S (fun ta s S => ?_)
        refine ⟨Gc, (ta, tupO #[.int 1 t8, .str q.1 q.2]) :: TT ++ _, ⟨rfl, (ta, tupO #[.int 1 t8, .str q.1 q.2]) :: TT, ds ++ [q], qs, rfl, rfl, by rw [hdq]; simp, ?_⟩, S.perm (List.perm_middle (l₁ := [_, _, _])).symm⟩
        rw [List.map_append]
        exact (hout.mono fun p hp => .tail _ hp).app (.cons ⟨ta, t8, q.2, rfl, .head _⟩ .nil)
    · rintro Gc news out acc na s ⟨rfl, TT, ds, qs, rfl, hrem, hdq, hout⟩ S
      have hq : qs = [] := by
        cases qs with
        | nil => rfl
        | cons q qs => simp [strValues] at hrem
      subst hq
      rw [List.append_nil] at hdq
      have hds : ds.map (·.1) = ((Str.ofString "r") :: ts).reverse := by rw [← hdq, List.map_reverse, hps]
      have hol : out.length = ts.length + 1 := by
        have h1 := hout.len
        have h2 := congrArg List.length hds
        simp at h1 h2
        omega
      have hout' : CallsAre TT out (ts.reverse.map (Call4.tell 1) ++ [.tell 1 (Str.ofString "r")]) := by
        have e : (ds.map fun q => Call4.tell 1 q.1) = (ds.map (·.1)).map (Call4.tell 1) := by rw [List.map_map]; rfl
        rw [e, hds] at hout
        simpa using hout
      clear hout
      refine spliced_none ?_
      have U : Up cl (listOf (vs' ++ [Value.ref tb]).toArray (nc + 1)) (listOf (vs' ++ [Value.ref tb] ++ out).toArray (nc + 1 + 1)) ((acc, listOf out.toArray na) :: (TT ++ ((tb, tupO #[.int 2 t6, .none]) :: (cl, listOf (vs' ++ [Value.ref tb]).toArray (nc + 1)) :: (st, listOf (strValues ps).toArray ns') :: (CC ++ ((xl, listOf xs.toArray 0) :: (L, oL) :: rest))))) ((acc, listOf out.toArray na) :: (TT ++ ((tb, tupO #[.int 2 t6, .none]) :: (cl, listOf (vs' ++ [Value.ref tb] ++ out).toArray (nc + 1 + 1)) :: (st, listOf (strValues ps).toArray ns') :: (CC ++ ((xl, listOf xs.toArray 0) :: (L, oL) :: rest))))) :=
        .tail ((Up.tail .head).pre TT)
      refine extL S (.head _) (by intro e; rw [e] at hol; simp at hol) U (by simp; omega) (fun s S => ?_)
      refine wpAny_execs_cons (wpAny_Return_some (wpAny_BinOp (ld S.F ec ?_)))
      refine List_ ?_
      refine spTup (Tuple_ (spCon (cInt S (fun u1 s S => ?_))))
      refine spCon (cInt S (fun u2 s S => spliced_none (tupS S (fun f1 s S => ?_))))
      refine spTup (Tuple_ (spCon (cInt S (fun u3 s S => ?_))))
      refine spCon (cStr S (fun u4 s S => spliced_none (tupS S (fun f2 s S => ?_))))
      refine spTup (Tuple_ (spCon (cInt S (fun u5 s S => ?_))))
      refine spCon (cStr S (fun u6 s S => spliced_none (tupS S (fun f3 s S => ?_))))
      refine spliced_none ?_
      refine listS S (fun fl s S => ?_)
      have icl : (cl, listOf (vs' ++ [Value.ref tb] ++ out).toArray (nc + 1 + 1)) ∈ (fl, listOf [Value.ref f1, Value.ref f2, Value.ref f3].toArray 0) :: (f3, tupO #[.int 4 u5, .str (Str.ofString "z") u6]) :: (f2, tupO #[.int 3 u3, .str (Str.ofString "z") u4]) :: (f1, tupO #[.int 2 u1, .int 7 u2]) :: (acc, listOf out.toArray na) :: (TT ++ ((tb, tupO #[.int 2 t6, .none]) :: (cl, listOf (vs' ++ [Value.ref tb] ++ out).toArray (nc + 1 + 1)) :: (st, listOf (strValues ps).toArray ns') :: (CC ++ ((xl, listOf xs.toArray 0) :: (L, oL) :: rest)))) :=
        .tail _ (.tail _ (.tail _ (.tail _ (.tail _ (List.mem_append.mpr (.inr (.tail _ (.head _))))))))
      refine addL (vs := vs' ++ [Value.ref tb] ++ out) (ws := [.ref f1, .ref f2, .ref f3]) S (listOf_isList (S.get icl)) (listOf_isList (S.get (.head _))) (by simp; omega) (fun rl s S => ?_)
      have S := S.drop (news' := (rl, listOf (vs' ++ [Value.ref tb] ++ out ++ [Value.ref f1, Value.ref f2, Value.ref f3]).toArray 0) :: (f3, tupO #[.int 4 u5, .str (Str.ofString "z") u6]) :: (f2, tupO #[.int 3 u3, .str (Str.ofString "z") u4]) :: (f1, tupO #[.int 2 u1, .int 7 u2]) :: (TT ++ ((tb, tupO #[.int 2 t6, .none]) :: (CC ++ ((L, oL) :: rest)))))
        (.cons_cons _ (.cons _ (.cons_cons _ (.cons_cons _ (.cons_cons _ (.cons _ (List.Sublist.append_left (.cons_cons _ (.cons _ (.cons _ (List.Sublist.append_left (.cons _ (.refl _)) CC)))) TT)))))))
      have S := (S.as (news' := ((rl, listOf (vs' ++ [Value.ref tb] ++ out ++ [Value.ref f1, Value.ref f2, Value.ref f3]).toArray 0) :: (f3, tupO #[.int 4 u5, .str (Str.ofString "z") u6]) :: (f2, tupO #[.int 3 u3, .str (Str.ofString "z") u4]) :: (f1, tupO #[.int 2 u1, .int 7 u2]) :: (TT ++ ((tb, tupO #[.int 2 t6, .none]) :: CC))) ++ ((L, oL) :: rest)) (by simp)).perm List.perm_middle
      have S := S.back fc_
      refine k rl _ 0 ((f3, tupO #[.int 4 u5, .str (Str.ofString "z") u6]) :: (f2, tupO #[.int 3 u3, .str (Str.ofString "z") u4]) :: (f1, tupO #[.int 2 u1, .int 7 u2]) :: (TT ++ ((tb, tupO #[.int 2 t6, .none]) :: CC))) cs ts _ ?_ hfw habx hlen2 hts S
      have e : (Call4.tell 0 (Str.ofString "r") :: (cs ++ [.bad] ++ ts.reverse.map (.tell 1) ++ [.tell 1 (Str.ofString "r"), .bad, .tell 3 (Str.ofString "z"), .tell 4 (Str.ofString "z")])) = (((Call4.tell 0 (Str.ofString "r") :: cs) ++ [.bad]) ++ (ts.reverse.map (Call4.tell 1) ++ [.tell 1 (Str.ofString "r")])) ++ [.bad, .tell 3 (Str.ofString "z"), .tell 4 (Str.ofString "z")] := by simp
      rw [e]
      generalize hN : ((f3, tupO #[.int 4 u5, .str (Str.ofString "z") u6]) :: (f2, tupO #[.int 3 u3, .str (Str.ofString "z") u4]) :: (f1, tupO #[.int 2 u1, .int 7 u2]) :: (TT ++ ((tb, tupO #[.int 2 t6, .none]) :: CC)) : List Cell) = N'
      have i1 : (tb, tupO #[.int 2 t6, .none]) ∈ N' := by rw [← hN]; exact .tail _ (.tail _ (.tail _ (List.mem_append.mpr (.inr (.head _)))))
      have i2 : (f1, tupO #[.int 2 u1, .int 7 u2]) ∈ N' := by rw [← hN]; exact .tail _ (.tail _ (.head _))
      have i3 : (f2, tupO #[.int 3 u3, .str (Str.ofString "z") u4]) ∈ N' := by rw [← hN]; exact .tail _ (.head _)
      have i4 : (f3, tupO #[.int 4 u5, .str (Str.ofString "z") u6]) ∈ N' := by rw [← hN]; exact .head _
      have h1 : CallsAre N' [Value.ref tb] [.bad] := .cons ⟨tb, t6, .none, rfl, i1, .none⟩ .nil
      have h2 : CallsAre N' [Value.ref f1, Value.ref f2, Value.ref f3] [.bad, .tell 3 (Str.ofString "z"), .tell 4 (Str.ofString "z")] := .cons ⟨f1, u1, .int 7 u2, rfl, i2, .int⟩ (.cons ⟨f2, u3, u4, rfl, i3⟩ (.cons ⟨f3, u5, u6, rfl, i4⟩ .nil))
      refine CallsAre.app (CallsAre.app (CallsAre.app (hca.mono fun p hp => ?_) h1) (hout'.mono fun p hp => ?_)) h2
      · rw [← hN]; exact .tail _ (.tail _ (.tail _ (List.mem_append.mpr (.inr (.tail _ hp)))))
      · rw [← hN]; exact .tail _ (.tail _ (.tail _ (List.mem_append.mpr (.inl hp))))
end
end Mine
end
section
open PySem PySem.W PySem.Calls PyProof.Rows
set_option Elab.async false
set_option maxRecDepth 100000
set_option linter.unusedVariables false
namespace Mine
local macro_rules | `(tactic| walk_at "mem") => `(tactic| (repeat (first | assumption | exact List.Mem.head _ | refine List.Mem.tail _ ?_)))
local macro_rules | `(tactic| walk_at "up") => `(tactic| (repeat (first | exact Up.head | refine Up.tail ?_)))
section
variable {w : World} {A : Around} {E : Value → Shared → Prop} {s : Shared} {R : Result → Shared → Prop} {B : Heap} {os : OsState} {G : Array GenState} {L : Addr} {m : Str → Option Value} {rest news W T : List Cell} {wc sp : Bool} {x da pl : Addr} {b : Abs}

variable {outer : List Env} {fm : List FMap} {fc : List Cell} {en : Str} {esc : Scope} {ea : Addr} {ecd : Value} {l : List (Str × Tok)} {y : Str} {t : Tok}
abbrev ritO (x left : Int) : Obj := { cls := .type "range_iterator", data := .fields #[rawInt x, rawInt left, rawInt 1] }
theorem nextR {it : Addr} {x left : Int} {news' : Obj → List Cell} {Q : Option Value → Shared → Prop} (S : St B os G L m news s) (U : ∀ o', Up it (ritO x left) o' news (news' o')) (hl : 0 < left) (h : ∀ t s', St B os G L m (news' (ritO (x + 1) (left - 1))) s' → Q (some (.int x t)) s') : wpAny (model prog4 w) A (pyNext (.ref it)) Q E s :=
  wpAny_pyNext_range_item (S.get (U (ritO x left)).mem) hl (fun h' hit hs => h _ _ (S.same (t := s.toks + 1) (U _) hs hit))
theorem endR {it : Addr} {x left : Int} {Q : Option Value → Shared → Prop} (hh : A.handled = none) (S : St B os G L m ((it, ritO x left) :: news) s) (hl : left ≤ 0) (h : ∀ s', St B os G L m news s' → Q none s') : wpAny (model prog4 w) A (pyNext (.ref it)) Q E s :=
  wpAny_pyNext_range_end hh (S.get (.head _)) hl (fun h' hx => h _ (S.lost (t := s.toks) hx))
theorem Wr.plist (hW : Wr prog4 w 143 wc sp x da pl b W) : ∃ vs n, (pl, listOf vs.toArray n) ∈ W ∧ OutIs vs b.out := by
  obtain ⟨σ, rfl, ⟨⟨⟨am, nz, a⟩, es, hps⟩, rfl, rfl, rfl, hda, hou, hde, hns, hnz⟩⟩ := hW
  exact ⟨σ.out, σ.npl, (List.Mem.tail _ (List.Mem.tail _ (List.Mem.tail _ (List.Mem.tail _ (List.Mem.tail _ (List.Mem.tail _ (List.Mem.tail _ (List.Mem.tail _ (List.Mem.head _))))))))), hou⟩
theorem lenNe {D1 D2 : Addr} {l1 l2 : List Value} {n1 n2 : Nat} {nm1 nm2 : Str} {p0 p1 p2 p3 p4 p5 p6 : Pos} {qual : Str} {scope : Scope} {f : Addr} {cd : Value} {whole : Sem Value} {Q : Bool → Shared → Prop} (C : Cx (hd.heap_39 w.params) B) (S : St B os G L m news s) (hm1 : m nm1 = some (.ref D1)) (hm2 : m nm2 = some (.ref D2)) (hD1 : (D1, listOf l1.toArray n1) ∈ news) (hD2 : (D2, listOf l2.toArray n2) ∈ news) (he : l1.length = l2.length) (hz : l1.length < 100000) (h : ∀ s', St B os G L m news s' → Q false s')
    (hsk : scope.kind = .function) (hl1 : (envOf qual scope L f cd).kindOf nm1 = some .local) (hl2 : (envOf qual scope L f cd).kindOf nm2 = some .local) (hlen : (envOf qual scope L f cd).kindOf (Str.ofString "len") = some .globalImplicit) (hd1 : (nm1 == ("__debug__" : Str)) = false) (hd2 : (nm2 == ("__debug__" : Str)) = false) :
    wpAny (model prog4 w) A (isTrue (.Compare (.Call (.Name (Str.ofString "len") p0) [.Name nm1 p1] [] p2) [.NotEq] [.Call (.Name (Str.ofString "len") p3) [.Name nm2 p4] [] p5] p6) (envOf qual scope L f cd) whole) Q E s := by
  refine wpAny_isTrue_Compare1 (wpAny_Call_ofName (bltS C S (by k_is) PySem.boot_len (by decide) ?_ hsk hlen))
  refine PyProof.Rows.callWith_builtin1 (spNm (ld S.F hm1 (spliced_none ?_) hsk hl1 hd1)) starNm
  refine lenL S hD1 (by omega) (fun _ s S => ?_)
  refine wpAny_Call_ofName (bltS C S (by k_is) PySem.boot_len (by decide) ?_ hsk hlen)
  refine PyProof.Rows.callWith_builtin1 (spNm (ld S.F hm2 (spliced_none ?_) hsk hl2 hd2)) starNm
  refine lenL S hD2 (by omega) (fun _ s S => ?_)
  refine PySem.P.ne_int (wpAny_truthy_bool ?_)
  rw [he]
  have e : ((l2.length : Int) != (l2.length : Int)) = false := by simp
  rw [e]
  exact h _ S
set_option maxHeartbeats 2000000 in
/-- the same call refused twice -/
theorem refuseLoop {ct pl2 : Addr} {kd : Nat} {t0 t : Tok} {l2 : List Value} {n2 : Nat} {q1 q2 q3 q4 q5 q6 q7 q8 q9 q10 q11 q12 q13 q14 q15 q16 q17 q18 q19 q20 q21 q22 q23 q24 q25 p0 p1 p2 p3 p4 p5 p6 : Pos} {qual : Str} {scope : Scope} {f : Addr} {cd : Value} {Q : Flow → Shared → Prop}
    (C : Cx (hd.heap_39 w.params) B) (hroom : A.depth + 12 < recursionLimit) (hh : A.handled = none) (hA : A.frames = some []) (S : St B os G L m news s) (hW : Wr prog4 w 143 wc sp x da pl b W) (hWr : ∀ p ∈ W, p ∈ news) (sb : Spoilt b news) (hct : (ct, tupO #[.int kd t0, .str y t]) ∈ news) (hkd : kd ∈ [0, 1, 3, 4, 5]) (hq : ¬ Quiet wc b kd y) (hseen : b.seen = true)
    (h2 : (pl2, listOf l2.toArray n2) ∈ news) (hl2 : l2.length = b.out.length) (hz : b.out.length < 1000)
    (e1 : m (Str.ofString "target") = some (.ref x)) (e2 : m (Str.ofString "call") = some (.ref ct)) (e3 : m (Str.ofString "pieces") = some (.ref pl)) (e4 : m (Str.ofString "plain") = some (.ref pl2))
    (hk : scope.kind = .function) (k1 : (envOf qual scope L f cd).kindOf (Str.ofString "again") = some .local) (k2 : (envOf qual scope L f cd).kindOf (Str.ofString "refused") = some .local) (k3 : (envOf qual scope L f cd).kindOf (Str.ofString "target") = some .local) (k4 : (envOf qual scope L f cd).kindOf (Str.ofString "call") = some .local) (k5 : (envOf qual scope L f cd).kindOf (Str.ofString "pieces") = some .local) (k6 : (envOf qual scope L f cd).kindOf (Str.ofString "plain") = some .local)
    (k7 : (envOf qual scope L f cd).kindOf (Str.ofString "range") = some .globalImplicit) (k8 : (envOf qual scope L f cd).kindOf (Str.ofString "_law_tell") = some .globalImplicit) (k9 : (envOf qual scope L f cd).kindOf (Str.ofString "len") = some .globalImplicit) (k10 : (envOf qual scope L f cd).kindOf (Str.ofString "TypeError") = some .globalImplicit)
    (k : ∀ m' s', (∀ y, y ≠ (Str.ofString "again") → y ≠ (Str.ofString "refused") → m' y = m y) → St B os G L m' news s' → Q .next s') :
    wpAny (model prog4 w) (A.deeper (envOf qual scope L f cd)) (exec (.For (.Name (Str.ofString "again") q1) (.Call (.Name (Str.ofString "range") q2) [.Constant (.int 2) 0 q3] [] q4)
      [.Assign [.Name (Str.ofString "refused") q5] (.Constant (.bool false) 0 q6) q7,
       .Try [.Expr (.Call (.Name (Str.ofString "_law_tell") q8) [.Name (Str.ofString "target") q9, .Name (Str.ofString "call") q10] [] q11) q12] [.ExceptHandler (some (.Name (Str.ofString "TypeError") q13)) none [.Assign [.Name (Str.ofString "refused") q14] (.Constant (.bool true) 0 q15) q16] q17] [] [] q18,
       .If (.BoolOp .Or [.UnaryOp .Not (.Name (Str.ofString "refused") q19) q20, .Compare (.Call (.Name (Str.ofString "len") p0) [.Name (Str.ofString "pieces") p1] [] p2) [.NotEq] [.Call (.Name (Str.ofString "len") p3) [.Name (Str.ofString "plain") p4] [] p5] p6] q21) [.Return (some (.Constant (.bool false) 0 q22)) q23] [] q24] [] q25) (envOf qual scope L f cd)) Q (fun _ _ => False) s := by
  obtain ⟨ol, on, hol, hou⟩ := hW.plist
  refine wpAny_For (wpAny_Call_ofName (bltS C S (by k_is) (v := .type "range") (by decide +kernel) (by decide) ?_ hk k7))
  refine PyProof.Rows.callWith_type1 (spCon (cInt S (fun t1 s S => spliced_none ?_))) starCon
  refine call_range_1 ?_
  have S := S.push (t := s.toks + 1 + 1) ({ cls := .type "range", data := .fields #[.int 0 s.toks, .int 2 t1, .int 1 (s.toks + 1)] } : Obj)
  refine wpAny_pyIter_range (S.get (.head _)) (by decide) ?_
  have S := S.push (t := s.toks + 1 + 1) (ritO 0 2)
  have S := S.drop (.cons_cons _ (.cons _ (.refl _)))
  generalize hit : (s.heap.push ({ cls := .type "range", data := .fields #[.int 0 s.toks, .int 2 t1, .int 1 (s.toks + 1)] } : Obj)).objs.size = it at S ⊢
  refine codeAny_forLoop (fun n s => n ≤ 2 ∧ ∃ m', (∀ y, y ≠ (Str.ofString "again") → y ≠ (Str.ofString "refused") → m' y = m y) ∧ St B os G L m' ((it, ritO (2 - n) n) :: news) s) ?_ 2 ⟨by decide, m, fun _ _ _ => rfl, S.as (by rfl)⟩
  rintro n s ⟨hn, m', hm', S⟩
  cases n with
  | zero =>
    refine endR hh S (by decide) (fun s S => ?_)
    exact wpAny_execs_nil (k m' s hm' S)
  | succ n =>
    refine nextR (x := 2 - ((n + 1 : Nat) : Int)) (left := ((n + 1 : Nat) : Int)) S (fun o' => .head) (by omega) (fun ta s S => ?_)
    refine wpAny_assign_Name (stS S (fun s S => ?_) hk k1)
    refine wpAny_mono (Q := fun fl s₃ => fl = .next ∧ ∃ m', (∀ y, y ≠ (Str.ofString "again") → y ≠ (Str.ofString "refused") → m' y = m y) ∧ St B os G L m' ((it, ritO (2 - n) n) :: news) s₃) (E := fun _ _ => False) ?_ ?_ (fun _ _ z => z.elim)
    · have ei : ritO (2 - ((n + 1 : Nat) : Int) + 1) (((n + 1 : Nat) : Int) - 1) = ritO (2 - n) n := by
        have a1 : (2 - ((n + 1 : Nat) : Int) + 1) = 2 - (n : Int) := by omega
        have a2 : (((n + 1 : Nat) : Int) - 1) = (n : Int) := by omega
        rw [a1, a2]
      rw [ei] at S
      refine wpAny_execs_cons (wpAny_Assign_Name (wpAny_Constant_bool (stS S (fun s S => ?_) hk k2)))
      obtain ⟨m2, S, f1, f2, f3, f4, f5⟩ : ∃ m2, St B os G L m2 ((it, ritO (2 - n) n) :: news) s ∧ m2 (Str.ofString "target") = some (.ref x) ∧ m2 (Str.ofString "call") = some (.ref ct) ∧ m2 (Str.ofString "pieces") = some (.ref pl) ∧ m2 (Str.ofString "plain") = some (.ref pl2) ∧ (∀ y, y ≠ (Str.ofString "again") → y ≠ (Str.ofString "refused") → m2 y = m y) :=
        ⟨_, S, (hm' _ (by decide) (by decide)).trans e1, (hm' _ (by decide) (by decide)).trans e2, (hm' _ (by decide) (by decide)).trans e3, (hm' _ (by decide) (by decide)).trans e4, fun y h1 h2 => by
          show (if _ then _ else if _ then _ else _) = _
          rw [if_neg h2, if_neg h1]; exact hm' y h1 h2⟩
      refine stmt_cut (fun s => ∃ m3, St B os G L m3 ((it, ritO (2 - n) n) :: news) s ∧ m3 (Str.ofString "refused") = some (.bool true) ∧ m3 (Str.ofString "pieces") = some (.ref pl) ∧ m3 (Str.ofString "plain") = some (.ref pl2) ∧ (∀ y, y ≠ (Str.ofString "again") → y ≠ (Str.ofString "refused") → m3 y = m y)) ?_ ?_
      · refine wpAny_Try_except ?_
        refine wpAny_execs_cons (wpAny_Expr_any ?_ (by show (scope.kind == .module && (scope.more.any _)) = false; rw [hk]; rfl) (by rfl))
        refine wpAny_Call_ofName (globS C S (by k_is) ?_ hk k8)
        refine callWith_K (K := hd.heap_39 w.params) C.X (by k_is) ?_ starNm
        refine spNm (ld S.F f1 ?_ hk k3)
        refine spNm (ld S.F f2 ?_ hk k4)
        refine spliced_none ⟨S.X C.X, wpAny_call ?_⟩
        have up : ∀ p ∈ news, p ∈ (it, ritO (2 - n) n) :: news := fun _ h => .tail _ h
        refine tell_bad (rest := (it, ritO (2 - n) n) :: news) (fc := []) (fm := []) (outer := []) C (by simp only [depth_deeper]; omega) hh (Around.frames_deeper hA) hk trivial S hW (fun p hp => up _ (hWr p hp)) ⟨fun v hv => (sb.all v hv).mono up, sb.bad.imp fun v hv => ⟨hv.1, hv.2.mono up⟩, sb.sz⟩ (up _ hct) hkd hq hseen (fun e s' F => ?_)
        refine caught C hA F (by k_is) (fun s S => ?_) hk k10 PassesOwnAt.never
        refine wpAny_execs_cons (wpAny_Assign_Name (wpAny_Constant_bool (stS S (fun s S => ?_) hk k2)))
        refine wpAny_execs_nil ?_
        exact ⟨rfl, _, S, by rfl, by exact f3, by exact f4, fun y h1 h2 => by
          show (if _ then _ else _) = _
          rw [if_neg h2]; exact f5 y h1 h2⟩
      · rintro s ⟨m3, S, g1, g2, g3, g4⟩
        refine wpAny_execs_cons (wpAny_If (wpAny_isTrue_BoolOp (wpAny_allTrue_Or_cons (wpAny_isTrue_Not (wpAny_isTrue_value (ld S.F g1 (wpAny_truthy_bool ?_) hk k2))))))
        refine ifF rfl (wpAny_allTrue_Or_cons (lenNe C S g2 g3 (.tail _ (hWr _ hol)) (.tail _ h2) (by rw [hou.length, hl2]) (by rw [hou.length]; omega) (fun s S => ifF rfl (wpAny_allTrue_Or_nil (ifF rfl (wpAny_execs_nil (wpAny_execs_nil ⟨rfl, m3, g4, S⟩))))) hk k5 k6 k9 (by decide) (by decide)))
    · rintro fl s ⟨rfl, m2, h2, S⟩
      exact ⟨n, by omega, by omega, m2, h2, S⟩
end
end Mine
end
section
open PySem PySem.W PySem.Calls PyProof.Rows
set_option Elab.async false
set_option maxRecDepth 100000
set_option linter.unusedVariables false
namespace Mine
local macro_rules | `(tactic| walk_at "mem") => `(tactic| (repeat (first | assumption | exact List.Mem.head _ | refine List.Mem.tail _ ?_)))
local macro_rules | `(tactic| walk_at "up") => `(tactic| (repeat (first | exact Up.head | refine Up.tail ?_)))
section
variable {w : World} {A : Around} {E : Value → Shared → Prop} {s : Shared} {R : Result → Shared → Prop} {B : Heap} {os : OsState} {G : Array GenState} {L : Addr} {m : Str → Option Value} {rest news W T : List Cell} {wc sp : Bool} {x da pl : Addr} {b : Abs}

variable {outer : List Env} {fm : List FMap} {fc : List Cell} {en : Str} {esc : Scope} {ea : Addr} {ecd : Value} {l : List (Str × Tok)} {y : Str} {t : Tok}
def isStrV : Value → Bool
  | .str _ _ => true
  | _ => false
theorem isStrV_no {news : List Cell} {v : Value} (h : NoTxt news v) : isStrV v = false := by cases h <;> rfl
theorem bltComp {M : Model} {scope cs : Scope} {cn : Str} {a C' : Addr} {ccd v : Value} {xn : Str} {pos : Pos} {Q : Value → Shared → Prop} {K : Frag} (C : Cx K B) (S : St B os G C' m news s) (e : nsIn K mainGlobals xn = some none) (hv : bootBuiltins xn = some v) (hn : xn ≠ "__name__") (h : Q v s)
    (hk : (compEnvC scope [] C' (envOf cn cs L a ccd)).scope.kind = .function) (hx : (compEnvC scope [] C' (envOf cn cs L a ccd)).kindOf xn = some .globalImplicit) (hd : (xn == ("__debug__" : Str)) = false := by decide) :
    wpAny M A (eval (.Name xn pos) (compEnvC scope [] C' (envOf cn cs L a ccd))) Q E s :=
  let ⟨_, _, _, _, T⟩ := C.top
  Name_function_global hk hx (loadGlobal_builtin (env := compEnvC scope [] C' (envOf cn cs L a ccd)) (T.g.keeps S.F.keep) (mg_none_of C.X T.g e) (T.b.keeps S.F.keep) ((T.builtins xn hn).trans hv) h) hd
abbrev cleanScope : Scope := { kind := .function, names := [((Str.ofString ".0"), .local), ((Str.ofString "piece"), .local), ((Str.ofString "isinstance"), .globalImplicit), ((Str.ofString "str"), .globalImplicit)], isGenerator := false, isCoroutine := false, more := [] }
set_option maxHeartbeats 2000000 in
/-- what is no text taken out of the texts held -/
theorem cleanStmt {q1 q2 q3 q4 q5 q6 q7 q8 q9 q10 q11 q12 q13 q14 q15 q16 : Pos} {qual : Str} {scope : Scope} {f : Addr} {cd : Value} {Q : Flow → Shared → Prop}
    (C : Cx (hd.heap_39 w.params) B) (hh : A.handled = none) (S : St B os G L m (W ++ rest) s) (hW : Wr prog4 w 143 wc sp x da pl b W) (hall : ∀ v ∈ b.data, TxtOr (W ++ rest) v) (hsz : b.data.length ≤ 300)
    (e1 : m (Str.ofString "target") = some (.ref x)) (hk : scope.kind = .function) (k1 : (envOf qual scope L f cd).kindOf (Str.ofString "target") = some .local)
    (k : ∀ W' s', Wr prog4 w 143 wc sp x da pl { b with data := b.data.filter isStrV } W' → St B os G L m (W' ++ rest) s' → Q .next s') :
    wpAny (model prog4 w) A (exec (.Assign [.Subscript (.Attribute (.Name (Str.ofString "target") q1) (Str.ofString "_data") q2) (.Slice none none none q3) q4]
      (.ListComp (.Name (Str.ofString "piece") q5) [⟨.Name (Str.ofString "piece") q6, .Attribute (.Name (Str.ofString "target") q7) (Str.ofString "_data") q8, [.Call (.Name (Str.ofString "isinstance") q9) [.Name (Str.ofString "piece") q10, .Name (Str.ofString "str") q11] [] q12], 0⟩] cleanScope q13) q14) (envOf qual scope L f cd)) Q E s := by
  obtain ⟨σ, rfl, ⟨⟨⟨am, nz, a⟩, es, hps⟩, rfl, rfl, rfl, hda, hou, hde, hns, hnz⟩⟩ := hW
  have ho := nz.o
  refine wpAny_Assign_Subscript ?_
  refine compL (m := m) (B := B) (os := os) hh (by rfl) (by decide) rfl (by decide) (by rfl) (by intro _; rfl)
    (fun rem Gc news out => Gc = G ∧ news = σ.cells 143 ++ rest ∧ ∃ ds, σ.data = ds ++ rem ∧ out = ds.filter isStrV) 300 (by decide) ?_
  refine Attribute_Name_ (ld S.F e1 ?_ hk k1)
  refine attrS S C.X (List.Mem.head _) (List.Mem.tail _ (List.Mem.head _)) ho (by k_is) (by k_is) (by k_is) (by k_is) a.data rfl (fun s S => ?_)
  refine iterL S (List.Mem.tail _ (List.Mem.tail _ (List.Mem.head _))) (fun it oit s hit S => ?_)
  refine ⟨it, _, _, σ.data, oit, G, _, rfl, wkList hh (l := σ.da) (vs := σ.data) (n := σ.nd), ⟨[], rfl, hit⟩, ⟨rfl, rfl, [], rfl, rfl⟩, S, ?_, ?_, ?_⟩
  · rintro rem Gc news out ⟨_, rfl, ds, hds, rfl⟩
    refine ⟨(List.Mem.tail _ (List.Mem.tail _ (List.Mem.head _))), ?_⟩
    have h1 := congrArg List.length hds
    have h2 := List.length_filter_le isStrV ds
    rw [List.length_append] at h1
    rw [← hda] at hsz
    omega
  · rintro v rem out acc na C' oL' oit' mC Gc news s E' ⟨rfl, rfl, ds, hds, rfl⟩ f' hv S
    have hvm : v ∈ b.data := by rw [← hda, hds]; simp
    rw [List.forIn_cons]
    refine wpAny_bind ?_
    rw [if_pos rfl]
    refine wpAny_bind (wpAny_isTrue_value ?_)
    refine wpAny_Call_ofName (bltComp C S (by k_is) (v := .builtin "isinstance") (by decide +kernel) (by decide) ?_ (by rfl) (by rfl))
    refine PyProof.Rows.callWith_builtin1 (spNm (ldComp S hv ?_)) starNm
    refine spNm (bltComp C S (by k_is) (v := .type "str") (by decide +kernel) (by decide) ?_ (by rfl) (by rfl))
    refine spliced_none ?_
    rcases hall v hvm with ⟨y, t, rfl⟩ | hno
    · refine isiYes (wpAny_truthy_bool (wpAny_pure ?_))
      dsimp only
      rw [List.forIn_nil]
      refine wpAny_pure ?_
      rw [if_pos rfl]
      refine ldComp S hv ?_
      exact ⟨Gc, _, ⟨rfl, rfl, ds ++ [.str y t], by rw [hds]; simp, by rw [List.filter_append]; rfl⟩, S⟩
    · refine isiNo S (hno.mono fun p hp => .tail _ (.tail _ (.tail _ hp))) (fun s S => wpAny_truthy_bool (wpAny_pure ?_))
      dsimp only
      rw [List.forIn_nil]
      refine wpAny_pure ?_
      rw [if_neg (by decide)]
      exact ⟨Gc, _, ⟨rfl, rfl, ds ++ [v], by rw [hds]; simp, by simp [isStrV_no hno]⟩, S⟩
  · rintro Gc news out acc na s ⟨rfl, rfl, ds, hds, rfl⟩ S
    rw [List.append_nil] at hds
    subst hds
    refine Attribute_Name_ (ld S.F e1 ?_ hk k1)
    refine attrS S C.X (List.Mem.tail _ (List.Mem.head _)) (List.Mem.tail _ (List.Mem.tail _ (List.Mem.head _))) ho (by k_is) (by k_is) (by k_is) (by k_is) a.data rfl (fun s S => ?_)
    refine sliceS S (fun sl s S => ?_)
    have hne : σ.da ≠ acc := by
      have nd := S.nd
      simp only [List.map_cons, List.nodup_cons] at nd
      intro e
      exact nd.2.1 (by rw [← e]; simp)
    refine setAllS S (List.Mem.head _) (List.Mem.tail _ (List.Mem.head _)) hne (fun n' => (Up.tail (Up.tail (Up.tail (Up.tail Up.head))))) ?_ (fun n' s S => ?_)
    · have h2 := List.length_filter_le isStrV σ.data
      rw [← hda] at hsz
      omega
    have S := S.drop (.cons _ (.cons _ (.refl _)))
    refine k _ _ ⟨{ σ with data := σ.data.filter isStrV, nd := n' }, rfl, ⟨⟨⟨am, nz, a.same ⟨rfl, rfl, rfl, rfl, rfl, rfl⟩⟩, es, hps⟩, rfl, rfl, rfl, by rw [hda], hou, hde, hns, hnz⟩⟩ S
end
end Mine
end
section
open PySem PySem.W PySem.Calls PyProof.Rows
set_option Elab.async false
set_option maxRecDepth 100000
set_option linter.unusedVariables false
namespace Mine
local macro_rules | `(tactic| walk_at "mem") => `(tactic| (repeat (first | assumption | exact List.Mem.head _ | refine List.Mem.tail _ ?_)))
local macro_rules | `(tactic| walk_at "up") => `(tactic| (repeat (first | exact Up.head | refine Up.tail ?_)))
section
variable {w : World} {A : Around} {E : Value → Shared → Prop} {s : Shared} {R : Result → Shared → Prop} {B : Heap} {os : OsState} {G : Array GenState} {L : Addr} {m : Str → Option Value} {rest news W T : List Cell} {wc sp : Bool} {x da pl : Addr} {b : Abs}

variable {outer : List Env} {fm : List FMap} {fc : List Cell} {en : Str} {esc : Scope} {ea : Addr} {ecd : Value} {l : List (Str × Tok)} {y : Str} {t : Tok}
section
variable {env : Env}
theorem orV {e1 e2 : PySem.Expr} {rs : List PySem.Expr} {pos : Pos} {b1 b2 : Bool} (h1 : ∀ s, St B os G L m news s → wpAny (model prog4 w) A (eval e1 env) (fun v s' => v = .bool b1 ∧ St B os G L m news s') E s)
    (h2 : ∀ s, St B os G L m news s → wpAny (model prog4 w) A (eval (.BoolOp .Or (e2 :: rs) pos) env) (fun v s' => v = .bool b2 ∧ St B os G L m news s') E s) : ∀ s, St B os G L m news s → wpAny (model prog4 w) A (eval (.BoolOp .Or (e1 :: e2 :: rs) pos) env) (fun v s' => v = .bool (b1 || b2) ∧ St B os G L m news s') E s := by
  intro s S
  refine BoolOp_or (wpAny_mono (h1 s S) ?_ fun _ _ z => z)
  rintro v s ⟨rfl, S⟩
  refine wpAny_truthy_bool ?_
  cases b1 with
  | true => exact ifT rfl ⟨rfl, S⟩
  | false => exact ifF rfl (h2 s S)
theorem andV {e1 e2 : PySem.Expr} {pos : Pos} {b1 b2 : Bool} (h1 : ∀ s, St B os G L m news s → wpAny (model prog4 w) A (eval e1 env) (fun v s' => v = .bool b1 ∧ St B os G L m news s') E s)
    (h2 : ∀ s, St B os G L m news s → wpAny (model prog4 w) A (eval e2 env) (fun v s' => v = .bool b2 ∧ St B os G L m news s') E s) : ∀ s, St B os G L m news s → wpAny (model prog4 w) A (eval (.BoolOp .And [e1, e2] pos) env) (fun v s' => v = .bool (b1 && b2) ∧ St B os G L m news s') E s := by
  intro s S
  refine BoolOp_and (wpAny_mono (h1 s S) ?_ fun _ _ z => z)
  rintro v s ⟨rfl, S⟩
  refine wpAny_truthy_bool ?_
  cases b1 with
  | false => exact ifF rfl ⟨rfl, S⟩
  | true => exact ifT rfl (BoolOp_one (h2 s S))
end
section
variable {qual : Str} {scope : Scope} {f : Addr} {cd : Value} {nm : Str} {p1 p2 p3 p4 p5 p6 p7 : Pos} {c : Nat}
theorem vEq {k n : Int} {t : Tok} (hm : m nm = some (.int k t)) (hsk : scope.kind = .function) (hl : (envOf qual scope L f cd).kindOf nm = some .local) (hd : (nm == ("__debug__" : Str)) = false) :
    ∀ s, St B os G L m news s → wpAny (model prog4 w) A (eval (.Compare (.Name nm p1) [.Eq] [.Constant (.int n) c p2] p3) (envOf qual scope L f cd)) (fun v s' => v = .bool (k == n) ∧ St B os G L m news s') E s :=
  fun s S => wpAny_Compare1 (ld S.F hm (cInt S (fun _ s S => PySem.P.eq_int ⟨rfl, S⟩)) hsk hl hd)
theorem vGt {k n : Int} {t : Tok} (hm : m nm = some (.int k t)) (hsk : scope.kind = .function) (hl : (envOf qual scope L f cd).kindOf nm = some .local) (hd : (nm == ("__debug__" : Str)) = false) :
    ∀ s, St B os G L m news s → wpAny (model prog4 w) A (eval (.Compare (.Name nm p1) [.Gt] [.Constant (.int n) c p2] p3) (envOf qual scope L f cd)) (fun v s' => v = .bool (decide (n < k)) ∧ St B os G L m news s') E s :=
  fun s S => wpAny_Compare1 (ld S.F hm (cInt S (fun _ s S => PyProof.Rows.gt_int ⟨rfl, S⟩)) hsk hl hd)
theorem vMod {k d n : Int} {t : Tok} {c2 : Nat} (hdn : d ≠ 0) (hm : m nm = some (.int k t)) (hsk : scope.kind = .function) (hl : (envOf qual scope L f cd).kindOf nm = some .local) (hd : (nm == ("__debug__" : Str)) = false) :
    ∀ s, St B os G L m news s → wpAny (model prog4 w) A (eval (.Compare (.BinOp (.Name nm p1) .Mod (.Constant (.int d) c p2) p3) [.Eq] [.Constant (.int n) c2 p4] p5) (envOf qual scope L f cd)) (fun v s' => v = .bool (k.fmod d == n) ∧ St B os G L m news s') E s :=
  fun s S => wpAny_Compare1 (wpAny_BinOp (ld S.F hm (cInt S (fun _ s S => modS S hdn (fun _ s S => cInt S (fun _ s S => PySem.P.eq_int ⟨rfl, S⟩)))) hsk hl hd))
theorem vNm {bb : Bool} (hm : m nm = some (.bool bb)) (hsk : scope.kind = .function) (hl : (envOf qual scope L f cd).kindOf nm = some .local) (hd : (nm == ("__debug__" : Str)) = false) :
    ∀ s, St B os G L m news s → wpAny (model prog4 w) A (eval (.Name nm p1) (envOf qual scope L f cd)) (fun v s' => v = .bool bb ∧ St B os G L m news s') E s :=
  fun s S => ld S.F hm ⟨rfl, S⟩ hsk hl hd
theorem vTup {ct : Addr} {kd : Nat} {n : Int} {yy : Str} {t0 t1 : Tok} {c2 : Nat} (hu : A.units < cLine) (hm : m nm = some (.ref ct)) (hct : (ct, tupO #[.int kd t0, .str y t1]) ∈ news) (hsk : scope.kind = .function) (hl : (envOf qual scope L f cd).kindOf nm = some .local) (hd : (nm == ("__debug__" : Str)) = false) :
    ∀ s, St B os G L m news s → wpAny (model prog4 w) A (eval (.Compare (.Name nm p1) [.Eq] [.Tuple [.Constant (.int n) c p2, .Constant (.str yy) c2 p3] 0 p4] p5) (envOf qual scope L f cd)) (fun v s' => v = .bool (decide ((kd : Int) = n) && decide (y = yy)) ∧ St B os G L m news s') E s := by
  intro s S
  refine wpAny_Compare1 (ld S.F hm ?_ hsk hl hd)
  refine Tuple_ (spCon (cInt S (fun t2 s S => ?_)))
  refine spCon (cStr S (fun t3 s S => spliced_none (tupS S (fun ta s S => ?_))))
  exact tupEq S (.tail _ hct) (.head _) hu ⟨rfl, S.drop (List.sublist_cons_self _ _)⟩
/-- data told to a writer -/
def addData (b : Abs) (v : Value) : Abs := if b.ign = 0 then { b with data := b.data ++ [v] } else b
theorem dataStmt {v : Value} {Q : Flow → Shared → Prop} (C : Cx (hd.heap_39 w.params) B) (hroom : A.depth + 2 < recursionLimit) (S : St B os G L m (W ++ rest) s) (hW : Wr prog4 w 143 wc sp x da pl b W) (hsz : b.data.length < 1000)
    (e1 : m nm = some (.ref x)) (e2 : m (Str.ofString "what") = some v) (hsk : scope.kind = .function) (hl : (envOf qual scope L f cd).kindOf nm = some .local) (hdb : (nm == ("__debug__" : Str)) = false) (hl2 : (envOf qual scope L f cd).kindOf (Str.ofString "what") = some .local) (hline : (p2.endLine == p4.line) = true)
    (k : ∀ W' s', Wr prog4 w 143 wc sp x da pl (addData b v) W' → St B os G L m (W' ++ rest) s' → Q .next s') :
    wpAny (model prog4 w) A (exec (.Expr (.Call (.Attribute (.Name nm p1) (Str.ofString "data") p2) [.Name (Str.ofString "what") p3] [] p4) p5) (envOf qual scope L f cd)) Q E s := by
  refine wpAny_Expr_any ?_ (by show (scope.kind == .module && (scope.more.any _)) = false; rw [hsk]; rfl) (by rfl)
  refine methodCall_S rfl (by rw [starNm]; rfl) hline (ld S.F e1 (fun pl => ?_) hsk hl hdb)
  refine methWr C S hW (fun p hp => List.mem_append.mpr (.inl hp)) (fun a => a.m7) (by k_is) (by k_is) (by k_is) ?_
  refine callWith_K (K := hd.heap_39 w.params) C.X (by k_is) ?_ starNm
  refine spNm (ld S.F e2 (spliced_none ⟨S.X C.X, wpAny_call ?_⟩) hsk hl2)
  by_cases hz : b.ign = 0
  · refine data_add C (by omega) S hW hz hsz (fun W' s' hW' S' => k W' s' ?_ S')
    rw [addData, if_pos hz]; exact hW'
  · refine data_skip C (by omega) S hW hz (fun s' S' => k W s' ?_ S')
    rw [addData, if_neg hz]; exact hW
theorem tellStmt {ct : Addr} {kd : Nat} {t0 t1 : Tok} {Q : Flow → Shared → Prop} (H : Lam B 118 116) (C : Cx (hd.heap_39 w.params) B) (hroom : A.depth + 9 < recursionLimit) (hh : A.handled = none) (S : St B os G L m (W ++ (T ++ rest)) s) (hT : Tb w T) (hW : Wr prog4 w 143 wc sp x da pl b W) (hct : (ct, tupO #[.int kd t0, .str y t1]) ∈ rest) (hkd : kd ∈ [0, 1, 3, 4, 5]) (cc : Can wc b kd y)
    (e1 : m nm = some (.ref x)) (e2 : m (Str.ofString "call") = some (.ref ct)) (hsk : scope.kind = .function) (hl : (envOf qual scope L f cd).kindOf nm = some .local) (hdb : (nm == ("__debug__" : Str)) = false) (hl2 : (envOf qual scope L f cd).kindOf (Str.ofString "call") = some .local) (hl3 : (envOf qual scope L f cd).kindOf (Str.ofString "_law_tell") = some .globalImplicit)
    (k : ∀ G' W' T' s', Tb w T' → Wr prog4 w 143 wc sp x da pl (tell wc sp b kd y) W' → St B os G' L m (W' ++ (T' ++ rest)) s' → Q .next s') :
    wpAny (model prog4 w) A (exec (.Expr (.Call (.Name (Str.ofString "_law_tell") p1) [.Name nm p2, .Name (Str.ofString "call") p3] [] p4) p5) (envOf qual scope L f cd)) Q E s := by
  refine wpAny_Expr_any ?_ (by show (scope.kind == .module && (scope.more.any _)) = false; rw [hsk]; rfl) (by rfl)
  refine wpAny_Call_ofName (globS C S (by k_is) ?_ hsk hl3)
  refine callWith_K (K := hd.heap_39 w.params) C.X (by k_is) ?_ starNm
  refine spNm (ld S.F e1 ?_ hsk hl hdb)
  refine spNm (ld S.F e2 ?_ hsk hl2)
  refine spliced_none ⟨S.X C.X, wpAny_call ?_⟩
  exact tell_good H C (by omega) hh S hT hW hct hkd cc (fun G' W' T' s' hT' hW' S' => k G' W' T' s' hT' hW' S')
end
end
end Mine
end
section
open PySem PySem.W PySem.Calls PyProof.Rows
set_option Elab.async false
set_option maxRecDepth 100000
set_option linter.unusedVariables false
namespace Mine
local macro_rules | `(tactic| walk_at "mem") => `(tactic| (repeat (first | assumption | exact List.Mem.head _ | refine List.Mem.tail _ ?_)))
local macro_rules | `(tactic| walk_at "up") => `(tactic| (repeat (first | exact Up.head | refine Up.tail ?_)))
def hvS (p : Nat × Nat) (t : Str) : Nat × Nat := if p.1 ≠ 0 ∨ t = (Str.ofString "x") then (p.1 + 1, p.2) else (0, p.2 + 1)
def hv (ts : List Str) : Nat × Nat := ts.foldl hvS (0, 0)
theorem hv_snoc (ts : List Str) (t : Str) : hv (ts ++ [t]) = hvS (hv ts) t := by simp [hv, List.foldl_append]
inductive Ph
  | start
  | mid (ts : List Str)
  | fin
/-- what is still to be told -/
inductive Todo : Ph → List Call4 → Prop
  | start {cs} : Todo (.mid []) cs → Todo .start (.tell 0 (Str.ofString "r") :: cs)
  | step {ts c ts' cs} : Step4 ts c ts' → Todo (.mid ts') cs → Todo (.mid ts) (c :: cs)
  | endr {cs} : Todo .fin cs → Todo (.mid []) (.tell 1 (Str.ofString "r") :: cs)
  | fbad {cs} : Todo .fin cs → Todo .fin (.bad :: cs)
  | foth {kd cs} : kd ∈ [3, 4] → Todo .fin cs → Todo .fin (.tell kd (Str.ofString "z") :: cs)
  | nil : Todo .fin []
theorem Todo.of_fw {ts ts' : List Str} {cs cs' : List Call4} (h : Fw ts cs ts') (k : Todo (.mid ts') cs') : Todo (.mid ts) (cs ++ cs') := by
  induction h with
  | nil => exact k
  | cons hs _ ih => exact .step hs (ih k)
theorem fw_close : ∀ (us : List Str), (∀ t ∈ us, Abx t) → Fw us.reverse (us.map (.tell 1)) []
  | [], _ => .nil
  | t :: us, h => by
    rw [List.reverse_cons, List.map_cons]
    exact .cons (.cls (h t (.head _))) (fw_close us fun u hu => h u (.tail _ hu))
theorem todo_all {cs : List Call4} {ts : List Str} (h : Fw [] cs ts) (ha : ∀ t ∈ ts, Abx t) : Todo .start (.tell 0 (Str.ofString "r") :: (cs ++ [.bad] ++ ts.reverse.map (.tell 1) ++ [.tell 1 (Str.ofString "r"), .bad, .tell 3 (Str.ofString "z"), .tell 4 (Str.ofString "z")])) := by
  refine .start ?_
  have h1 := fw_close ts.reverse (fun t ht => ha t (by simpa using ht))
  rw [List.reverse_reverse] at h1
  have h2 : Fw [] (cs ++ [.bad] ++ ts.reverse.map (.tell 1)) [] := (h.snoc .bad).app h1
  exact Todo.of_fw h2 (.endr (.fbad (.foth (by decide) (.foth (by decide) .nil))))
def PhOk : Ph → Abs → Nat → Bool → Prop
  | .start, a, hid, en => a.seen = false ∧ a.done = false ∧ a.ign = 0 ∧ hid = 0 ∧ en = false ∧ a.data = [] ∧ a.dep = 0
  | .mid ts, a, hid, en => a.seen = true ∧ a.done = false ∧ a.ign = hid ∧ hid = (hv ts).1 ∧ a.dep = (hv ts).2 + 1 ∧ en = false
  | .fin, a, hid, en => a.seen = true ∧ a.done = true ∧ a.ign = 0 ∧ hid = 0 ∧ en = true
structure Inv (fix : List Cell) (ph : Ph) (a b : Abs) (sd : Bool) (hid : Nat) (en : Bool) (n : Nat) : Prop where
  hb : b = { a with data := a.data.filter isStrV }
  tx : ∀ v ∈ a.data, (∃ y t, v = .str y t ∧ y.length ≤ 3) ∨ NoTxt fix v
  spo : sd = true ↔ ∃ v ∈ a.data, isStrV v = false
  ph : PhOk ph a hid en
  d1 : a.data.length ≤ n
  d2 : a.out.length ≤ 4 * n
  d3 : a.nsm ≤ n
  d4 : a.dep ≤ n
theorem Todo.kd {ph : Ph} {kd : Nat} {y : Str} {cs : List Call4} (h : Todo ph (.tell kd y :: cs)) : kd ∈ [0, 1, 3, 4, 5] ∧ PlainY y := by
  have abx : ∀ {t : Str}, Abx t → PlainY t := by
    intro t ht
    unfold Abx at ht
    simp only [List.mem_cons, List.not_mem_nil, or_false] at ht
    rcases ht with rfl | rfl | rfl <;> simp [PlainY]
  cases h with
  | start _ => exact ⟨by decide, by simp [PlainY]⟩
  | step hs _ =>
    cases hs with
    | opn ha => exact ⟨by decide, abx ha⟩
    | cls ha => exact ⟨by decide, abx ha⟩
    | oth hk =>
      refine ⟨?_, by simp [PlainY]⟩
      simp only [List.mem_cons, List.not_mem_nil, or_false] at hk ⊢
      omega
  | endr _ => exact ⟨by decide, by simp [PlainY]⟩
  | foth hk _ =>
    refine ⟨?_, by simp [PlainY]⟩
    simp only [List.mem_cons, List.not_mem_nil, or_false] at hk ⊢
    omega
theorem abx_nr {t : Str} (h : Abx t) : t ≠ (Str.ofString "r") := by
  unfold Abx at h
  simp only [List.mem_cons, List.not_mem_nil, or_false] at h
  rcases h with rfl | rfl | rfl <;> decide
theorem strs_of {vs : List Value} (h : ∀ v ∈ vs, ∃ y t, v = .str y t ∧ y.length ≤ 3) : ∃ l : List (Str × Tok), vs = strValues l ∧ ∀ p ∈ l, p.1.length ≤ 3 := by
  induction vs with
  | nil => exact ⟨[], rfl, fun _ h => nomatch h⟩
  | cons v vs ih =>
    obtain ⟨y, t, rfl, hy⟩ := h v (.head _)
    obtain ⟨l, rfl, hl⟩ := ih fun u hu => h u (.tail _ hu)
    exact ⟨(y, t) :: l, rfl, fun p hp => by
      rcases List.mem_cons.mp hp with rfl | hp
      · exact hy
      · exact hl p hp⟩
section
variable {fix : List Cell} {ph : Ph} {a b : Abs} {sd : Bool} {hid : Nat} {en : Bool} {n kd : Nat} {y : Str} {cs : List Call4} {wc : Bool}
theorem Inv.strs (h : Inv fix ph a b sd hid en n) : ∀ v ∈ b.data, ∃ y t, v = .str y t ∧ y.length ≤ 3 := by
  intro v hv
  rw [h.hb] at hv
  obtain ⟨h1, h2⟩ := List.mem_filter.mp hv
  rcases h.tx v h1 with h3 | h3
  · exact h3
  · rw [isStrV_no h3] at h2; cases h2
theorem Inv.same (h : Inv fix ph a b sd hid en n) (hs : sd = false) : b = a := by
  have : a.data.filter isStrV = a.data := by
    rw [List.filter_eq_self]
    intro v hv
    cases q : isStrV v with
    | true => rfl
    | false => have := h.spo.mpr ⟨v, hv, q⟩; rw [hs] at this; cases this
  rw [h.hb, this]
theorem Inv.quiet (h : Inv fix ph a b sd hid en n) (ht : Todo ph (.tell kd y :: cs)) {q : Int} (hw : wc = (q.fmod 2 == 0)) :
    (decide ((0 : Int) < (hid : Int)) || (en || ((decide ((kd : Int) = 0) && decide (y = (Str.ofString "x"))) || (((kd : Int) == 3) && (q.fmod 2 == 1))))) = true ↔ Quiet wc a kd y := by
  obtain ⟨r0, r2⟩ := fmod_range q 2 (by decide)
  have hp := h.ph
  have e3 : (((kd : Int) == 3) = true) ↔ kd = 3 := by
    rw [beq_iff_eq]; omega
  have ew : (q.fmod 2 == 1) = true ↔ wc = false := by
    rw [hw, beq_iff_eq]
    rcases (show q.fmod 2 = 0 ∨ q.fmod 2 = 1 by omega) with e | e <;> rw [e] <;> decide
  have e0 : ((kd : Int) = 0) ↔ kd = 0 := by omega
  have eh : ((0 : Int) < (hid : Int)) ↔ hid ≠ 0 := by omega
  unfold Quiet
  simp only [Bool.or_eq_true, Bool.and_eq_true, decide_eq_true_eq, e3, ew, e0, eh]
  cases ht with
  | start _ =>
    obtain ⟨p1, p2, p3, p4, p5, p6, p7⟩ := hp
    simp [p2, p3, p4, p5]
  | step hs _ =>
    obtain ⟨p1, p2, p3, p4, p5, p6⟩ := hp
    simp [p2, p3, p6]
  | endr _ =>
    obtain ⟨p1, p2, p3, p4, p5, p6⟩ := hp
    simp [p2, p3, p6]
  | foth hk _ =>
    obtain ⟨p1, p2, p3, p4, p5⟩ := hp
    simp only [List.mem_cons, List.not_mem_nil, or_false] at hk
    simp [p2, p5, hk]
theorem Inv.bdata (h : Inv fix ph a b sd hid en n) : b.data.length ≤ n := by
  rw [h.hb]
  exact Nat.le_trans (List.length_filter_le _ _) h.d1
theorem Inv.can (h : Inv fix ph a b sd hid en n) (ht : Todo ph (.tell kd y :: cs)) (hn : n ≤ 200) (hq : sd = false ∨ Quiet wc a kd y) : Can wc a kd y ∧ Can wc b kd y := by
  obtain ⟨hk, hy⟩ := ht.kd
  have hp := h.ph
  have hbs : b.seen = a.seen ∧ b.done = a.done ∧ b.ign = a.ign ∧ b.out = a.out ∧ b.nsm = a.nsm ∧ b.dep = a.dep := by rw [h.hb]; exact ⟨rfl, rfl, rfl, rfl, rfl, rfl⟩
  obtain ⟨b1, b2, b3, b4, b5, b6⟩ := hbs
  have hseen : kd ≠ 0 → a.seen = true := by
    intro hk0
    cases ht with
    | start _ => exact absurd rfl hk0
    | step _ _ => exact hp.1
    | endr _ => exact hp.1
    | foth _ _ => exact hp.1
  have hseen0 : a.seen = true ∨ a.data = [] := by
    cases ht with
    | start _ => exact .inr hp.2.2.2.2.2.1
    | step _ _ => exact .inl hp.1
    | endr _ => exact .inl hp.1
    | foth _ _ => exact .inl hp.1
  have hdep : kd = 1 → a.ign = 0 → 1 ≤ a.dep := by
    intro hk1 _
    cases ht with
    | start _ => cases hk1
    | step _ _ => rw [hp.2.2.2.2.1]; omega
    | endr _ => rw [hp.2.2.2.2.1]; omega
    | foth hk _ => subst hk1; simp at hk
  have hdone : a.done = true → a.ign ≠ 0 ∨ kd = 3 ∨ kd = 4 := by
    intro hd
    cases ht with
    | start _ => rw [hp.2.1] at hd; cases hd
    | step _ _ => rw [hp.2.1] at hd; cases hd
    | endr _ => rw [hp.2.1] at hd; cases hd
    | foth hk _ =>
      simp only [List.mem_cons, List.not_mem_nil, or_false] at hk
      exact .inr hk
  have h1 := h.d1
  have h2 := h.d2
  have h3 := h.d3
  have h4 := h.d4
  have hbd := h.bdata
  constructor
  · refine ⟨?_, hseen, hseen0, hdep, hdone, by omega, by omega, by omega, hy⟩
    rcases hq with hq | hq
    · right
      have e := h.same hq
      obtain ⟨l, hl, hl3⟩ := strs_of h.strs
      rw [e] at hl
      refine ⟨l, hl, ?_, hl3⟩
      have := congrArg List.length hl
      simp [strValues] at this
      omega
    · exact .inl hq
  · refine ⟨.inr ?_, by rw [b1]; exact hseen, ?_, by rw [b3, b6]; exact hdep, by rw [b2, b3]; exact hdone, by rw [b4]; omega, by rw [b5]; omega, by rw [b6]; omega, hy⟩
    · obtain ⟨l, hl, hl3⟩ := strs_of h.strs
      refine ⟨l, hl, ?_, hl3⟩
      have := congrArg List.length hl
      simp [strValues] at this
      omega
    · rw [b1]
      refine hseen0.imp id fun e => ?_
      rw [h.hb]; simp [e]
/-- the law's own count of what is left out -/
def nextHid (kd : Nat) (y : Str) (hid : Nat) : Nat := if kd = 0 ∧ (hid ≠ 0 ∨ y = (Str.ofString "x")) then hid + 1 else if kd = 1 ∧ hid ≠ 0 then hid - 1 else hid
theorem flOut_len (sp : Bool) (l : List (Str × Tok)) : (flOut sp l).length ≤ 1 := by unfold flOut; split <;> simp
theorem tell5 {sp : Bool} : tell wc sp a 5 y = if a.ign ≠ 0 then a else { a with data := [], out := a.out ++ flOut sp (dtxt a.data), nsm := a.nsm + 1 } := by rw [tell]; all_goals decide
/-- a quiet call leaves the texts held -/
theorem tell_quiet {sp : Bool} (hq : Quiet wc a kd y) (hk : kd ∈ [0, 1, 3, 4, 5]) (D : List Value) : tell wc sp { a with data := D } kd y = { tell wc sp a kd y with data := D } ∧ (tell wc sp a kd y).data = a.data := by
  simp only [List.mem_cons, List.not_mem_nil, or_false] at hk
  rcases hk with rfl | rfl | rfl | rfl | rfl
  · have h : a.ign ≠ 0 ∨ y = (Str.ofString "x") := by
      rcases hq with h | ⟨_, h⟩ | ⟨h, _⟩ | ⟨_, h | h⟩
      · exact .inl h
      · exact .inr h
      all_goals cases h
    simp only [tell]
    rw [if_pos h, if_pos (show ({ a with data := D } : Abs).ign ≠ 0 ∨ y = (Str.ofString "x") from h)]
    exact ⟨rfl, rfl⟩
  · have h : a.ign ≠ 0 := by
      rcases hq with h | ⟨h, _⟩ | ⟨h, _⟩ | ⟨_, h | h⟩
      · exact h
      all_goals cases h
    simp only [tell]
    rw [if_pos h, if_pos (show ({ a with data := D } : Abs).ign ≠ 0 from h)]
    exact ⟨rfl, rfl⟩
  · simp only [tell]
    by_cases h : wc = false ∨ a.ign ≠ 0
    · rw [if_pos h, if_pos (show wc = false ∨ ({ a with data := D } : Abs).ign ≠ 0 from h)]
      exact ⟨rfl, rfl⟩
    · have hd : a.done = true := by
        rcases hq with h' | ⟨h', _⟩ | ⟨_, h'⟩ | ⟨h', _⟩
        · exact absurd (.inr h') h
        · cases h'
        · exact absurd (.inl h') h
        · exact h'
      rw [if_neg h, if_neg (show ¬ (wc = false ∨ ({ a with data := D } : Abs).ign ≠ 0) from h), if_pos hd, if_pos (show ({ a with data := D } : Abs).done = true from hd)]
      exact ⟨rfl, rfl⟩
  · simp only [tell]
    by_cases h : a.ign ≠ 0
    · rw [if_pos h, if_pos (show ({ a with data := D } : Abs).ign ≠ 0 from h)]
      exact ⟨rfl, rfl⟩
    · have hd : a.done = true := by
        rcases hq with h' | ⟨h', _⟩ | ⟨h', _⟩ | ⟨h', _⟩
        · exact absurd h' h
        · cases h'
        · cases h'
        · exact h'
      rw [if_neg h, if_neg (show ¬ ({ a with data := D } : Abs).ign ≠ 0 from h), if_pos hd, if_pos (show ({ a with data := D } : Abs).done = true from hd)]
      exact ⟨rfl, rfl⟩
  · have h : a.ign ≠ 0 := by
      rcases hq with h | ⟨h, _⟩ | ⟨h, _⟩ | ⟨_, h | h⟩
      · exact h
      all_goals cases h
    rw [tell5, tell5, if_pos h, if_pos (show ({ a with data := D } : Abs).ign ≠ 0 from h)]
    exact ⟨rfl, rfl⟩
/-- sizes behind a call -/
theorem tell_sizes {sp : Bool} (hk : kd ∈ [0, 1, 3, 4, 5]) : (tell wc sp a kd y).data.length ≤ a.data.length ∧ (tell wc sp a kd y).out.length ≤ a.out.length + 4 ∧ (tell wc sp a kd y).nsm ≤ a.nsm + 1 ∧ (tell wc sp a kd y).dep ≤ a.dep + 1 := by
  have hf := flOut_len sp (dtxt a.data)
  simp only [List.mem_cons, List.not_mem_nil, or_false] at hk
  rcases hk with rfl | rfl | rfl | rfl | rfl
  · simp only [tell]; split <;> simp <;> omega
  · simp only [tell]; split <;> simp <;> omega
  · simp only [tell]; split
    · simp
    · split <;> simp <;> omega
  · simp only [tell]; split
    · simp
    · split <;> simp <;> omega
  · rw [tell5]; split <;> simp <;> omega
/-- a call that wants the texts held leaves none -/
theorem tell_loud {sp : Bool} (hq : ¬ Quiet wc a kd y) (hk : kd ∈ [0, 1, 3, 4, 5]) : (tell wc sp a kd y).data = [] := by
  have hi : a.ign = 0 := Decidable.byContradiction fun h => hq (.inl h)
  simp only [List.mem_cons, List.not_mem_nil, or_false] at hk
  rcases hk with rfl | rfl | rfl | rfl | rfl
  · simp only [tell]
    rw [if_neg]
    rintro (h | h)
    · exact h hi
    · exact hq (.inr (.inl ⟨rfl, h⟩))
  · simp only [tell]
    rw [if_neg (fun h => h hi)]
  · simp only [tell]
    rw [if_neg, if_neg]
    · intro h
      exact hq (.inr (.inr (.inr ⟨h, .inl rfl⟩)))
    · rintro (h | h)
      · exact hq (.inr (.inr (.inl ⟨rfl, h⟩)))
      · exact h hi
  · simp only [tell]
    rw [if_neg (fun h => h hi), if_neg]
    intro h
    exact hq (.inr (.inr (.inr ⟨h, .inr rfl⟩)))
  · rw [tell5, if_neg (fun h => h hi)]
theorem tell_ph {sp : Bool} (hp : PhOk ph a hid en) (ht : Todo ph (.tell kd y :: cs)) : ∃ ph', Todo ph' cs ∧ PhOk ph' (tell wc sp a kd y) (nextHid kd y hid) (en || (decide ((kd : Int) = 1) && decide (y = (Str.ofString "r")))) := by
  cases ht with
  | start hn =>
    obtain ⟨p1, p2, p3, p4, p5, p6, p7⟩ := hp
    refine ⟨_, hn, ?_⟩
    have hnx : ¬ (a.ign ≠ 0 ∨ (Str.ofString "r") = (Str.ofString "x")) := by rw [p3]; decide
    have e : nextHid 0 (Str.ofString "r") hid = 0 := by rw [p4]; rfl
    rw [e, p5]
    simp only [tell]
    rw [if_neg hnx]
    exact ⟨rfl, p2, p3, rfl, by show a.dep + 1 = _; rw [p7]; rfl, by decide⟩
  | step hs hn =>
    obtain ⟨p1, p2, p3, p4, p5, p6⟩ := hp
    refine ⟨_, hn, ?_⟩
    cases hs with
    | opn ha =>
      rename_i ts
      simp only [tell]
      by_cases hq : a.ign ≠ 0 ∨ y = (Str.ofString "x")
      · rw [if_pos hq]
        have hq' : hid ≠ 0 ∨ y = (Str.ofString "x") := by rw [← p3]; exact hq
        have e : nextHid 0 y hid = hid + 1 := by rw [nextHid, if_pos ⟨rfl, hq'⟩]
        have e2 : hv (ts ++ [y]) = (hid + 1, (hv ts).2) := by rw [hv_snoc, hvS, ← p4, if_pos hq']
        rw [e]
        exact ⟨p1, p2, by show a.ign + 1 = _; rw [p3], by rw [e2], by rw [e2]; exact p5, by rw [p6]; rfl⟩
      · rw [if_neg hq]
        have hq' : ¬ (hid ≠ 0 ∨ y = (Str.ofString "x")) := by rw [← p3]; exact hq
        have h0 : hid = 0 := Decidable.byContradiction fun h => hq' (.inl h)
        have e : nextHid 0 y hid = 0 := by
          rw [nextHid, if_neg (fun h => hq' h.2), if_neg (fun h => by cases h.1)]; exact h0
        have e2 : hv (ts ++ [y]) = (0, (hv ts).2 + 1) := by rw [hv_snoc, hvS, ← p4, if_neg hq']
        rw [e]
        exact ⟨rfl, p2, by show a.ign = 0; rw [p3, h0], by rw [e2], by rw [e2]; show a.dep + 1 = _; rw [p5], by rw [p6]; rfl⟩
    | cls ha =>
      rename_i ts
      have hr : decide (y = (Str.ofString "r")) = false := decide_eq_false (abx_nr ha)
      rw [hr, Bool.and_false, Bool.or_false]
      rw [hv_snoc] at p4 p5
      simp only [tell]
      by_cases hq : a.ign ≠ 0
      · rw [if_pos hq]
        have hh0 : hid ≠ 0 := by rw [← p3]; exact hq
        have e : nextHid 1 y hid = hid - 1 := by rw [nextHid, if_neg (fun h => by cases h.1), if_pos ⟨rfl, hh0⟩]
        rw [e]
        have hx : (hv ts).1 ≠ 0 ∨ y = (Str.ofString "x") := by
          refine Decidable.byContradiction fun h => ?_
          rw [hvS, if_neg h] at p4
          exact hh0 p4
        rw [hvS, if_pos hx] at p4 p5
        exact ⟨p1, p2, by show a.ign - 1 = _; rw [p3], by rw [p4]; rfl, p5, p6⟩
      · rw [if_neg hq]
        have hh0 : hid = 0 := by rw [← p3]; exact Decidable.byContradiction hq
        have e : nextHid 1 y hid = 0 := by rw [nextHid, if_neg (fun h => by cases h.1), if_neg (fun h => h.2 hh0)]; exact hh0
        rw [e]
        have hx : ¬ ((hv ts).1 ≠ 0 ∨ y = (Str.ofString "x")) := by
          intro h
          rw [hvS, if_pos h] at p4
          rw [hh0] at p4
          exact absurd p4 (by simp)
        rw [hvS, if_neg hx] at p4 p5
        have hz : (hv ts).1 = 0 := Decidable.byContradiction fun h => hx (.inl h)
        have p5' : a.dep = (hv ts).2 + 1 + 1 := p5
        exact ⟨p1, by show decide (a.dep - 1 = 0) = false; rw [p5']; simp, by show a.ign = 0; rw [p3, hh0], hz.symm, by show a.dep - 1 = _; rw [p5']; rfl, p6⟩
    | oth hk =>
      simp only [List.mem_cons, List.not_mem_nil, or_false] at hk
      have e : nextHid kd (Str.ofString "c") hid = hid := by
        rw [nextHid, if_neg (fun h => by omega), if_neg (fun h => by omega)]
      have e1 : decide ((kd : Int) = 1) = false := decide_eq_false (by omega)
      rw [e, e1, Bool.false_and, Bool.or_false]
      have key : (tell wc sp a kd (Str.ofString "c")).seen = a.seen ∧ (tell wc sp a kd (Str.ofString "c")).done = a.done ∧ (tell wc sp a kd (Str.ofString "c")).ign = a.ign ∧ (tell wc sp a kd (Str.ofString "c")).dep = a.dep := by
        rcases hk with rfl | rfl | rfl
        · simp only [tell]; split
          · exact ⟨rfl, rfl, rfl, rfl⟩
          · split <;> exact ⟨rfl, rfl, rfl, rfl⟩
        · simp only [tell]; split
          · exact ⟨rfl, rfl, rfl, rfl⟩
          · split <;> exact ⟨rfl, rfl, rfl, rfl⟩
        · rw [tell5]; split <;> exact ⟨rfl, rfl, rfl, rfl⟩
      obtain ⟨k1, k2, k3, k4⟩ := key
      exact ⟨by rw [k1]; exact p1, by rw [k2]; exact p2, by rw [k3]; exact p3, p4, by rw [k4]; exact p5, p6⟩
  | endr hn =>
    obtain ⟨p1, p2, p3, p4, p5, p6⟩ := hp
    refine ⟨_, hn, ?_⟩
    have h0 : hid = 0 := p4
    have hq : ¬ a.ign ≠ 0 := by rw [p3, h0]; decide
    have e : nextHid 1 (Str.ofString "r") hid = 0 := by rw [h0]; rfl
    rw [e]
    simp only [tell]
    rw [if_neg hq]
    have p5' : a.dep = 1 := p5
    exact ⟨p1, by show decide (a.dep - 1 = 0) = true; rw [p5']; rfl, by show a.ign = 0; rw [p3, h0], rfl, by simp⟩
  | foth hk hn =>
    obtain ⟨p1, p2, p3, p4, p5⟩ := hp
    refine ⟨_, hn, ?_⟩
    simp only [List.mem_cons, List.not_mem_nil, or_false] at hk
    have e : nextHid kd (Str.ofString "z") hid = hid := by
      rw [nextHid, if_neg (fun h => by omega), if_neg (fun h => by omega)]
    have key : (tell wc sp a kd (Str.ofString "z")).seen = a.seen ∧ (tell wc sp a kd (Str.ofString "z")).done = a.done ∧ (tell wc sp a kd (Str.ofString "z")).ign = a.ign := by
      rcases hk with rfl | rfl
      · simp only [tell]; split
        · exact ⟨rfl, rfl, rfl⟩
        · first
          | exact ⟨rfl, rfl, rfl⟩
          | (split <;> exact ⟨rfl, rfl, rfl⟩)
      · simp only [tell]; split
        · exact ⟨rfl, rfl, rfl⟩
        · first
          | exact ⟨rfl, rfl, rfl⟩
          | (split <;> exact ⟨rfl, rfl, rfl⟩)
    obtain ⟨k1, k2, k3⟩ := key
    rw [e]
    exact ⟨by rw [k1]; exact p1, by rw [k2]; exact p2, by rw [k3]; exact p3, p4, by rw [p5]; rfl⟩
theorem Inv.tell {sp : Bool} (h : Inv fix ph a b sd hid en n) (ht : Todo ph (.tell kd y :: cs)) (hq : sd = false ∨ Quiet wc a kd y) :
    ∃ ph', Todo ph' cs ∧ Inv fix ph' (tell wc sp a kd y) (tell wc sp b kd y) sd (nextHid kd y hid) (en || (decide ((kd : Int) = 1) && decide (y = (Str.ofString "r")))) (n + 1) := by
  obtain ⟨hk, hy⟩ := ht.kd
  obtain ⟨ph', ht', hp'⟩ := tell_ph (wc := wc) (sp := sp) h.ph ht
  obtain ⟨z1, z2, z3, z4⟩ := tell_sizes (wc := wc) (sp := sp) (a := a) (y := y) hk
  have h1 := h.d1
  have h2 := h.d2
  have h3 := h.d3
  have h4 := h.d4
  refine ⟨ph', ht', ?_⟩
  by_cases hqq : Quiet wc a kd y
  · obtain ⟨t1, t2⟩ := tell_quiet (sp := sp) hqq hk (a.data.filter isStrV)
    refine ⟨?_, by rw [t2]; exact h.tx, by rw [t2]; exact h.spo, hp', by omega, by omega, by omega, by omega⟩
    rw [t2]
    conv => lhs; rw [h.hb]
    exact t1
  · have hs := hq.resolve_right hqq
    have e := h.same hs
    have hd := tell_loud (sp := sp) hqq hk
    refine ⟨?_, (by rw [hd]; exact fun _ h => nomatch h), ?_, hp', by omega, by omega, by omega, by omega⟩
    · rw [e]
      cases q : Mine.tell wc sp a kd y with
      | mk dt o dp sn dn ig nm =>
        rw [q] at hd
        simp only at hd
        subst hd
        rfl
    · rw [hd, hs]
      constructor
      · intro h; cases h
      · rintro ⟨v, hv, _⟩; cases hv
theorem Inv.text {v : Value} {t : Tok} (h : Inv fix ph a b sd hid en n) (ht : Todo ph (.text y :: cs)) (hv : v = .str y t) : ∃ ph', Todo ph' cs ∧ Inv fix ph' (addData a v) (addData b v) sd hid en (n + 1) := by
  have h1 := h.d1
  have h2 := h.d2
  have h3 := h.d3
  have h4 := h.d4
  cases ht with
  | step hs hn =>
    cases hs with
    | txt hy =>
      have hy3 : y.length ≤ 3 := by
        unfold Txt5 at hy
        simp only [List.mem_cons, List.not_mem_nil, or_false] at hy
        rcases hy with rfl | rfl | rfl | rfl | rfl <;> decide
      refine ⟨_, hn, ?_⟩
      have hbi : b.ign = a.ign := by rw [h.hb]
      by_cases hz : a.ign = 0
      · rw [addData, if_pos hz, addData, if_pos (hbi.trans hz)]
        refine ⟨?_, ?_, ?_, h.ph, by simp; omega, by show a.out.length ≤ _; omega, by show a.nsm ≤ _; omega, by show a.dep ≤ _; omega⟩
        · rw [h.hb]
          simp [List.filter_append, hv]
          rfl
        · intro u hu
          rcases List.mem_append.mp hu with hu | hu
          · exact h.tx u hu
          · rw [List.mem_singleton.mp hu]; exact .inl ⟨y, t, hv, hy3⟩
        · rw [h.spo]
          constructor
          · rintro ⟨u, hu, hn⟩; exact ⟨u, List.mem_append.mpr (.inl hu), hn⟩
          · rintro ⟨u, hu, hn⟩
            rcases List.mem_append.mp hu with hu | hu
            · exact ⟨u, hu, hn⟩
            · rw [List.mem_singleton.mp hu, hv] at hn; cases hn
      · rw [addData, if_neg hz, addData, if_neg (by rw [hbi]; exact hz)]
        exact ⟨h.hb, h.tx, h.spo, h.ph, by omega, by omega, by omega, by omega⟩
theorem Inv.bad {v : Value} (h : Inv fix ph a b sd hid en n) (ht : Todo ph (.bad :: cs)) (hv : NoTxt fix v) : ∃ ph', Todo ph' cs ∧ Inv fix ph' (addData a v) b (if hid = 0 then true else sd) hid en (n + 1) := by
  have h1 := h.d1
  have h2 := h.d2
  have h3 := h.d3
  have h4 := h.d4
  have key : ∃ ph', Todo ph' cs ∧ (∀ a', a'.seen = a.seen → a'.done = a.done → a'.ign = a.ign → a'.dep = a.dep → PhOk ph' a' hid en) ∧ a.ign = hid := by
    have hp := h.ph
    cases ht with
    | step hs hn =>
      cases hs with
      | bad =>
        refine ⟨_, hn, ?_, hp.2.2.1⟩
        intro a' e1 e2 e3 e4
        exact ⟨by rw [e1]; exact hp.1, by rw [e2]; exact hp.2.1, by rw [e3]; exact hp.2.2.1, hp.2.2.2.1, by rw [e4]; exact hp.2.2.2.2.1, hp.2.2.2.2.2⟩
    | fbad hn =>
      refine ⟨_, hn, ?_, by rw [hp.2.2.1, hp.2.2.2.1]⟩
      intro a' e1 e2 e3 e4
      exact ⟨by rw [e1]; exact hp.1, by rw [e2]; exact hp.2.1, by rw [e3]; exact hp.2.2.1, hp.2.2.2.1, hp.2.2.2.2⟩
  obtain ⟨ph', hn, hp', hi⟩ := key
  refine ⟨ph', hn, ?_⟩
  by_cases hz : a.ign = 0
  · rw [addData, if_pos hz, if_pos (hi.symm.trans hz)]
    refine ⟨?_, ?_, ?_, hp' _ rfl rfl rfl rfl, by simp; omega, by show a.out.length ≤ _; omega, by show a.nsm ≤ _; omega, by show a.dep ≤ _; omega⟩
    · rw [h.hb]
      simp [List.filter_append, isStrV_no hv]
    · intro u hu
      rcases List.mem_append.mp hu with hu | hu
      · exact h.tx u hu
      · rw [List.mem_singleton.mp hu]; exact .inr hv
    · refine ⟨fun _ => ⟨v, by simp, isStrV_no hv⟩, fun _ => rfl⟩
  · rw [addData, if_neg hz, if_neg (by rw [← hi]; exact hz)]
    exact ⟨h.hb, h.tx, h.spo, hp' a rfl rfl rfl rfl, by omega, by omega, by omega, by omega⟩
theorem Inv.clean (h : Inv fix ph a b sd hid en n) (hp : ph ≠ .start) : Inv fix ph { a with data := a.data.filter isStrV } b false hid en n := by
  have h1 := h.d1
  refine ⟨?_, ?_, ?_, ?_, ?_, h.d2, h.d3, h.d4⟩
  · rw [h.hb]; simp [List.filter_filter]
  · intro v hv
    exact h.tx v (List.mem_filter.mp hv).1
  · constructor
    · intro e; cases e
    · rintro ⟨v, hv, hn⟩
      rw [(List.mem_filter.mp hv).2] at hn; cases hn
  · have := h.ph
    cases ph with
    | start => exact absurd rfl hp
    | mid ts => exact this
    | fin => exact this
  · exact Nat.le_trans (List.length_filter_le _ _) h1
end
end Mine
end
section
open PySem PySem.W PySem.Calls PyProof.Rows
set_option Elab.async false
set_option maxRecDepth 100000
set_option linter.unusedVariables false
namespace Mine
local macro_rules | `(tactic| walk_at "mem") => `(tactic| (repeat (first | assumption | exact List.Mem.head _ | refine List.Mem.tail _ ?_)))
local macro_rules | `(tactic| walk_at "up") => `(tactic| (repeat (first | exact Up.head | refine Up.tail ?_)))
section
variable {w : World} {A : Around} {E : Value → Shared → Prop} {s : Shared} {R : Result → Shared → Prop} {B : Heap} {os : OsState} {G : Array GenState} {L : Addr} {m : Str → Option Value} {rest news W T : List Cell} {wc sp : Bool} {x da pl : Addr} {b : Abs}

variable {outer : List Env} {fm : List FMap} {fc : List Cell} {en : Str} {esc : Scope} {ea : Addr} {ecd : Value} {l : List (Str × Tok)} {y : Str} {t : Tok}
theorem strEqB (y z : Str) : (y.cps.toList == z.cps.toList) = decide (y = z) := by
  by_cases h : y = z
  · subst h; simp
  · have : ¬ y.cps.toList = z.cps.toList := fun e => h (by
      cases y; cases z
      exact congrArg Str.mk (Array.toList_inj.mp e))
    rw [beq_eq_false_iff_ne.mpr this, decide_eq_false h]
/-- what the names of law hold -/
structure M4 (m : Str → Option Value) (x1 x2 pl1 pl2 : Addr) (tot : Int) (tt : Tok) (hid : Nat) (sd en : Bool) : Prop where
  tg : m (Str.ofString "target") = some (.ref x1)
  ot : m (Str.ofString "other") = some (.ref x2)
  pc : m (Str.ofString "pieces") = some (.ref pl1)
  pn : m (Str.ofString "plain") = some (.ref pl2)
  to : m (Str.ofString "total") = some (.int tot tt)
  hi : ∃ th, m (Str.ofString "hidden") = some (.int hid th)
  sp : m (Str.ofString "spoiled") = some (.bool sd)
  en : m (Str.ofString "ended") = some (.bool en)
theorem M4.put {m : Str → Option Value} {x1 x2 pl1 pl2 : Addr} {tot : Int} {tt : Tok} {hid : Nat} {sd en : Bool} (h : M4 m x1 x2 pl1 pl2 tot tt hid sd en) {nm : Str} {v : Value} (hn : nm ∉ [(Str.ofString "target"), (Str.ofString "other"), (Str.ofString "pieces"), (Str.ofString "plain"), (Str.ofString "total"), (Str.ofString "hidden"), (Str.ofString "spoiled"), (Str.ofString "ended")]) : M4 (fun y => if y = nm then some v else m y) x1 x2 pl1 pl2 tot tt hid sd en := by
  simp only [List.mem_cons, List.not_mem_nil, or_false, not_or] at hn
  obtain ⟨n1, n2, n3, n4, n5, n6, n7, n8⟩ := hn
  obtain ⟨h1, h2, h3, h4, h5, ⟨th, h6⟩, h7, h8⟩ := h
  exact ⟨put_ne h1 (Ne.symm n1), put_ne h2 (Ne.symm n2), put_ne h3 (Ne.symm n3), put_ne h4 (Ne.symm n4), put_ne h5 (Ne.symm n5), ⟨th, put_ne h6 (Ne.symm n6)⟩, put_ne h7 (Ne.symm n7), put_ne h8 (Ne.symm n8)⟩
theorem M4.of {m m' : Str → Option Value} {x1 x2 pl1 pl2 : Addr} {tot : Int} {tt : Tok} {hid : Nat} {sd en : Bool} (h : M4 m x1 x2 pl1 pl2 tot tt hid sd en) (e : ∀ y, y ≠ (Str.ofString "again") → y ≠ (Str.ofString "refused") → m' y = m y) : M4 m' x1 x2 pl1 pl2 tot tt hid sd en := by
  obtain ⟨h1, h2, h3, h4, h5, ⟨th, h6⟩, h7, h8⟩ := h
  exact ⟨(e _ (by decide) (by decide)).trans h1, (e _ (by decide) (by decide)).trans h2, (e _ (by decide) (by decide)).trans h3, (e _ (by decide) (by decide)).trans h4, (e _ (by decide) (by decide)).trans h5, ⟨th, (e _ (by decide) (by decide)).trans h6⟩, (e _ (by decide) (by decide)).trans h7, (e _ (by decide) (by decide)).trans h8⟩
theorem M4.putSp {m : Str → Option Value} {x1 x2 pl1 pl2 : Addr} {tot : Int} {tt : Tok} {hid : Nat} {sd sd' en : Bool} (h : M4 m x1 x2 pl1 pl2 tot tt hid sd en) : M4 (fun y => if y = (Str.ofString "spoiled") then some (.bool sd') else m y) x1 x2 pl1 pl2 tot tt hid sd' en := by
  obtain ⟨h1, h2, h3, h4, h5, ⟨th, h6⟩, h7, h8⟩ := h
  exact ⟨put_ne h1 (by decide), put_ne h2 (by decide), put_ne h3 (by decide), put_ne h4 (by decide), put_ne h5 (by decide), ⟨th, put_ne h6 (by decide)⟩, put_eq, put_ne h8 (by decide)⟩
theorem M4.putEn {m : Str → Option Value} {x1 x2 pl1 pl2 : Addr} {tot : Int} {tt : Tok} {hid : Nat} {sd en en' : Bool} (h : M4 m x1 x2 pl1 pl2 tot tt hid sd en) : M4 (fun y => if y = (Str.ofString "ended") then some (.bool en') else m y) x1 x2 pl1 pl2 tot tt hid sd en' := by
  obtain ⟨h1, h2, h3, h4, h5, ⟨th, h6⟩, h7, h8⟩ := h
  exact ⟨put_ne h1 (by decide), put_ne h2 (by decide), put_ne h3 (by decide), put_ne h4 (by decide), put_ne h5 (by decide), ⟨th, put_ne h6 (by decide)⟩, put_ne h7 (by decide), put_eq⟩
theorem M4.putHi {m : Str → Option Value} {x1 x2 pl1 pl2 : Addr} {tot : Int} {tt th' : Tok} {hid hid' : Nat} {sd en : Bool} (h : M4 m x1 x2 pl1 pl2 tot tt hid sd en) : M4 (fun y => if y = (Str.ofString "hidden") then some (.int hid' th') else m y) x1 x2 pl1 pl2 tot tt hid' sd en := by
  obtain ⟨h1, h2, h3, h4, h5, ⟨th, h6⟩, h7, h8⟩ := h
  exact ⟨put_ne h1 (by decide), put_ne h2 (by decide), put_ne h3 (by decide), put_ne h4 (by decide), put_ne h5 (by decide), ⟨th', put_eq⟩, put_ne h7 (by decide), put_ne h8 (by decide)⟩
/-- between two turns of law's loop -/
structure JL (w : World) (fix : List Cell) (x1 d1 pl1 x2 d2 pl2 : Addr) (tot : Int) (tt : Tok) (rem : List Value) (m : Str → Option Value) (news : List Cell) : Prop where
  ex : ∃ Wa Wb T a b sd hid en ph cs n, news = Wa ++ (Wb ++ (T ++ fix)) ∧ Wr prog4 w 143 (wcOf tot) (spOf tot) x1 d1 pl1 a Wa ∧ Wr prog4 w 143 (wcOf tot) (spOf tot) x2 d2 pl2 b Wb ∧ Tb w T ∧ CallsAre fix rem cs ∧ Todo ph cs ∧ Inv fix ph a b sd hid en n ∧ n + rem.length ≤ 100 ∧ M4 m x1 x2 pl1 pl2 tot tt hid sd en
/-- three names taken out of a triple -/
theorem unpack3S {ta : Addr} {v₁ v₂ v₃ : Value} {x₁ x₂ x₃ : Str} {p₁ p₂ p₃ pos : Pos} {k : Nat} {name : Str} {scope : Scope} {f : Addr} {cd : Value} {Q : Unit → Shared → Prop} (S : St B os G L m news s) (hh : A.handled = none) (ht : (ta, tupO #[v₁, v₂, v₃]) ∈ news)
    (h : ∀ s', St B os G L (fun y => if y = x₃ then some v₃ else if y = x₂ then some v₂ else if y = x₁ then some v₁ else m y) news s' → Q () s')
    (hk : scope.kind = .function := by rfl) (hl₁ : (envOf name scope L f cd).kindOf x₁ = some .local := by rfl) (hl₂ : (envOf name scope L f cd).kindOf x₂ = some .local := by rfl) (hl₃ : (envOf name scope L f cd).kindOf x₃ = some .local := by rfl) :
    wpAny (model prog4 w) A (assign (.Tuple [.Name x₁ p₁, .Name x₂ p₂, .Name x₃ p₃] k pos) (envOf name scope L f cd) (.ref ta)) Q E s := by
  refine wpAny_assign_Tuple hh (tup_is (S.get ht)) rfl rfl (fun h' hx => ?_)
  have S₁ := S.extB (t := s.toks) hx
  show wpAny _ _ (holding [v₂, v₃] (standAt p₁ >>= fun _ => bindName _ x₁ v₁) >>= fun _ => holding [v₃] (standAt p₂ >>= fun _ => bindName _ x₂ v₂) >>= fun _ => holding [] (standAt p₃ >>= fun _ => bindName _ x₃ v₃) >>= fun _ => pure ()) _ _ _
  refine wpAny_bind (wpAny_holding (wpAny_bind (wpAny_standAt (wpAny_bindName (stS S₁ (fun s₂ S₂ => ?_) hk hl₁)))))
  refine wpAny_bind (wpAny_holding (wpAny_bind (wpAny_standAt (wpAny_bindName (stS S₂ (fun s₃ S₃ => ?_) hk hl₂)))))
  exact wpAny_bind (wpAny_holding (wpAny_bind (wpAny_standAt (wpAny_bindName (stS S₃ (fun s₄ S₄ => wpAny_pure (h _ S₄)) hk hl₃)))))
theorem permLaw {α : Type} (x t : α) (a b c : List α) : (x :: (c ++ (b ++ (a ++ [t])))).Perm (a ++ (b ++ ([t] ++ (x :: c)))) := by
  classical exact List.perm_iff_count.mpr fun y => by simp only [List.count_append, List.count_cons, List.count_nil]; omega
theorem or2 {e1 e2 : PySem.Expr} {env : Env} {pos : Pos} {whole : Sem Value} {b1 b2 : Bool} {Q : Bool → Shared → Prop} (S : St B os G L m news s) (h1 : ∀ s, St B os G L m news s → wpAny (model prog4 w) A (isTrue e1 env (eval e1 env)) (fun b s' => b = b1 ∧ St B os G L m news s') E s)
    (h2 : ∀ s, St B os G L m news s → wpAny (model prog4 w) A (isTrue e2 env (eval e2 env)) (fun b s' => b = b2 ∧ St B os G L m news s') E s) (h : ∀ s', St B os G L m news s' → Q (b1 || b2) s') : wpAny (model prog4 w) A (isTrue (.BoolOp .Or [e1, e2] pos) env whole) Q E s := by
  refine wpAny_isTrue_BoolOp (wpAny_allTrue_Or_cons (wpAny_mono (h1 s S) ?_ fun _ _ z => z))
  rintro b s ⟨rfl, S⟩
  cases b with
  | true => exact ifT rfl (h _ S)
  | false =>
    refine ifF rfl (wpAny_allTrue_Or_cons (wpAny_mono (h2 s S) ?_ fun _ _ z => z))
    rintro b s ⟨rfl, S⟩
    cases b with
    | true => exact ifT rfl (h _ S)
    | false => exact ifF rfl (wpAny_allTrue_Or_nil (h _ S))
theorem pm0 {α : Type} (c : α) (a b r : List α) : (a ++ (c :: (b ++ r))).Perm (b ++ (c :: (a ++ r))) := by
  classical exact List.perm_iff_count.mpr fun x => by simp only [List.count_append, List.count_cons]; omega
theorem pm00 {α : Type} (c : α) (a b r : List α) : (b ++ (c :: (a ++ r))).Perm (c :: (a ++ (b ++ r))) := by
  classical exact List.perm_iff_count.mpr fun x => by simp only [List.count_append, List.count_cons]; omega
theorem pm1 {α : Type} (c : α) (a b t r : List α) : (c :: (a ++ (b ++ (t ++ r)))).Perm (a ++ (t ++ (c :: (b ++ r)))) := by
  classical exact List.perm_iff_count.mpr fun x => by simp only [List.count_append, List.count_cons]; omega
theorem pm2 {α : Type} (c : α) (a b t r : List α) : (a ++ (t ++ (c :: (b ++ r)))).Perm (b ++ (t ++ (c :: (a ++ r)))) := by
  classical exact List.perm_iff_count.mpr fun x => by simp only [List.count_append, List.count_cons]; omega
theorem pm3 {α : Type} (c : α) (a b t r : List α) : (b ++ (t ++ (c :: (a ++ r)))).Perm (c :: (a ++ (b ++ (t ++ r)))) := by
  classical exact List.perm_iff_count.mpr fun x => by simp only [List.count_append, List.count_cons]; omega
theorem pm4 {α : Type} (a b t r : List α) : (a ++ (b ++ (t ++ r))).Perm (t ++ (a ++ (b ++ r))) := by
  classical exact List.perm_iff_count.mpr fun x => by simp only [List.count_append]; omega
theorem Inv.notStart {fix : List Cell} {ph : Ph} {a b : Abs} {hid n : Nat} {en : Bool} (h : Inv fix ph a b true hid en n) : ph ≠ .start ∧ a.seen = true := by
  obtain ⟨v, hv, _⟩ := h.spo.mp rfl
  have hp := h.ph
  cases ph with
  | start => obtain ⟨_, _, _, _, _, e, _⟩ := hp; rw [e] at hv; cases hv
  | mid ts => exact ⟨(fun e => by cases e), hp.1⟩
  | fin => exact ⟨(fun e => by cases e), hp.1⟩
theorem Inv.spoilt {fix news : List Cell} {ph : Ph} {a b : Abs} {hid n : Nat} {en : Bool} (h : Inv fix ph a b true hid en n) (hs : ∀ p ∈ fix, p ∈ news) (hn : n < 1000) : Spoilt a news := by
  refine ⟨fun v hv => ?_, ?_, Nat.lt_of_le_of_lt h.d1 hn⟩
  · rcases h.tx v hv with ⟨y, t, e, _⟩ | h1
    · exact .inl ⟨y, t, e⟩
    · exact .inr (h1.mono hs)
  · obtain ⟨v, hv, hf⟩ := h.spo.mp rfl
    refine ⟨v, hv, ?_⟩
    rcases h.tx v hv with ⟨y, t, e, _⟩ | h1
    · rw [e] at hf; cases hf
    · exact h1.mono hs
theorem nextHid_up {kd hid : Nat} {y : Str} (h : (((kd : Int) == 0) && (decide ((0 : Int) < (hid : Int)) || decide (y = (Str.ofString "x")))) = true) : nextHid kd y hid = hid + 1 := by
  simp only [Bool.and_eq_true, Bool.or_eq_true, beq_iff_eq, decide_eq_true_eq] at h
  rw [nextHid, if_pos]
  refine ⟨by omega, h.2.imp (fun h => by omega) id⟩
theorem nextHid_not {kd hid : Nat} {y : Str} (h : (((kd : Int) == 0) && (decide ((0 : Int) < (hid : Int)) || decide (y = (Str.ofString "x")))) = false) : nextHid kd y hid = if (((kd : Int) == 1) && decide ((0 : Int) < (hid : Int))) = true then hid - 1 else hid := by
  have h0 : ¬ (kd = 0 ∧ (hid ≠ 0 ∨ y = (Str.ofString "x"))) := by
    rintro ⟨h1, h2⟩
    have : (((kd : Int) == 0) && (decide ((0 : Int) < (hid : Int)) || decide (y = (Str.ofString "x")))) = true := by
      simp only [Bool.and_eq_true, Bool.or_eq_true, beq_iff_eq, decide_eq_true_eq]
      exact ⟨by omega, h2.imp (fun h => by omega) id⟩
    rw [h] at this; cases this
  rw [nextHid, if_neg h0]
  by_cases h1 : kd = 1 ∧ hid ≠ 0
  · rw [if_pos h1, if_pos]
    simp only [Bool.and_eq_true, beq_iff_eq, decide_eq_true_eq]
    omega
  · rw [if_neg h1, if_neg]
    simp only [Bool.and_eq_true, beq_iff_eq, decide_eq_true_eq]
    omega
set_option maxHeartbeats 8000000 in
theorem law_spec {sa L' fa : Addr} {cdA : Value} {vs : List Value} {ns : List Int} {Q : Flow → Shared → Prop} {name : Str} {params : Arguments} {body : List Stmt} {scope : Scope} {dV kV doc pm cdv ctv oc : Value} {an od : Option Addr} {osl : Array (Option Value)} (hf : (hd.heap_39 w.params).lookup 185 = some ⟨oc, od, .func (fnOf name (Str.ofString "law") params body scope dV kV doc pm an cdv ctv), osl⟩)
    (H : Lam B 118 116) (C : Cx (hd.heap_39 w.params) B) (hroom : A.depth + 20 < recursionLimit) (hh : A.handled = none) (hA : A.frames = some []) (hu : A.units + 4 < cLine) (S : St B os G L' (fun y => [((Str.ofString "script"), Value.ref sa)].reverse.lookup y) [(116, tabObj #[])] s) (hs : B.IsList sa vs.toArray) (hi : IntsAre vs ns) (hn : ns.length ≤ 63)
    (k : ∀ G' m' T news' s', Tb w T → St B os G' L' m' (T ++ news') s' → Q (.ret (.bool true)) s') : wpAny (model prog4 w) (A.deeper (envOf (Str.ofString "law") scope L' fa cdA)) (execs body (envOf (Str.ofString "law") scope L' fa cdA)) Q E s := by
  have e := hf.symm.trans (show (hd.heap_39 w.params).lookup 185 = _ by k_is)
  cases e
  simp only [List.reverse_cons, List.reverse_nil, List.nil_append, List.cons_append] at S
  refine wpAny_execs_cons (wpAny_Assign_Name (wpAny_Call_ofName (bltS C S (by k_is) (v := .builtin "sum") (by decide +kernel) (by decide) ?_)))
  refine PyProof.Rows.callWith_builtin1 (spNm (ld S.F (by rfl) (spliced_none ?_))) starNm
  refine sumS hh S (S.F.lst hs) hi (fun tt s S => stS S (fun s S => ?_))
  generalize ns.sum = tot at S
  refine wpAny_execs_cons (Assign_Tuple_swapped (names := [(Str.ofString "pieces"), (Str.ofString "plain")]) (Tuple_ (spLst (List_ (spliced_none (listS S (fun pl1 s S => ?_)))))))
  refine spLst (List_ (spliced_none (listS S (fun pl2 s S => spliced_none (tupS S (fun ta s S => ?_))))))
  refine swap2S S hh (.head _) (fun s S => ?_)
  have S := S.drop (List.sublist_cons_self _ _)
  refine wpAny_execs_cons (Assign_Tuple_swapped (names := [(Str.ofString "target"), (Str.ofString "other")]) (Tuple_ (spCall (wpAny_Call_ofName (globS C S (by k_is) ?_)))))
  refine callWith_K (K := hd.heap_39 w.params) C.X (by k_is) ?_ starNm
  refine spNm (ld S.F (by rfl) (spNm (ld S.F (by rfl) (spliced_none ⟨S.X C.X, wpAny_call ?_⟩))))
  refine writer_spec (rest := (pl2, listOf [].toArray 0) :: [(116, tabObj #[])]) C (by simp only [depth_deeper]; omega) hh (S.perm (List.Perm.swap ..)) (fun Wa x1 d1 s hWa S => ?_)
  refine spCall (wpAny_Call_ofName (globS C S (by k_is) ?_))
  refine callWith_K (K := hd.heap_39 w.params) C.X (by k_is) ?_ starNm
  refine spNm (ld S.F (by rfl) (spNm (ld S.F (by rfl) (spliced_none ⟨S.X C.X, wpAny_call ?_⟩))))
  refine writer_spec (rest := Wa ++ [(116, tabObj #[])]) C (by simp only [depth_deeper]; omega) hh (S.perm List.perm_middle) (fun Wb x2 d2 s hWb S => ?_)
  refine spliced_none (tupS S (fun ta2 s S => ?_))
  refine swap2S S hh (.head _) (fun s S => ?_)
  have S := S.drop (List.sublist_cons_self _ _)
  refine wpAny_execs_cons (Assign_Tuple (Tuple_ (spCon (cInt S (fun th s S => ?_)))))
  refine spCon (wpAny_Constant_bool (spCon (wpAny_Constant_bool (spliced_none (tupS S (fun ta3 s S => ?_))))))
  refine unpack3S S hh (.head _) (fun s S => ?_)
  have S := S.drop (List.sublist_cons_self _ _)
  obtain ⟨m1, S, M, esc⟩ : ∃ m1, St B os G L' m1 (Wb ++ (Wa ++ [(116, tabObj #[])])) s ∧ M4 m1 x1 x2 pl1 pl2 tot tt 0 false false ∧ m1 (Str.ofString "script") = some (.ref sa) := ⟨_, S, ⟨by rfl, by rfl, by rfl, by rfl, by rfl, ⟨th, by rfl⟩, by rfl, by rfl⟩, by rfl⟩
  show wpAny _ _ (execs _ _) _ _ _
  refine wpAny_execs_cons (wpAny_For (wpAny_Call_ofName (globS C S (by k_is) ?_)))
  refine callWith_K (K := hd.heap_39 w.params) C.X (by k_is) ?_ starNm
  refine spNm (ld S.F esc (spliced_none ⟨S.X C.X, wpAny_call ?_⟩))
  refine calls_spec C (by simp only [depth_deeper]; omega) hh S hs hi hn (fun cl vs' nc CC cs ts s hca hfw habx hcl hts S => ?_)
  have S : St B os G L' m1 (Wa ++ (Wb ++ ([(116, tabObj #[])] ++ ((cl, listOf vs'.toArray nc) :: CC)))) s := S.perm (permLaw ..)
  have hfixC : ∀ p ∈ CC, p ∈ (cl, listOf vs'.toArray nc) :: CC := fun p hp => .tail _ hp
  have hcl' : (cl, listOf vs'.toArray nc) ∈ (cl, listOf vs'.toArray nc) :: CC := .head _
  have hca' := hca.mono hfixC
  have htodo := todo_all hfw habx
  have hlen : vs'.length ≤ 100 := by
    rw [hca.len]
    simp
    omega
  clear hca hfixC hfw habx hcl hts
  generalize (Call4.tell 0 (Str.ofString "r") :: (cs ++ [.bad] ++ ts.reverse.map (.tell 1) ++ [.tell 1 (Str.ofString "r"), .bad, .tell 3 (Str.ofString "z"), .tell 4 (Str.ofString "z")])) = cs0 at hca' htodo
  generalize hfix : ((cl, listOf vs'.toArray nc) :: CC : List Cell) = fix at S hcl' hca'
  refine iterL S (List.mem_append.mpr (.inr (List.mem_append.mpr (.inr (List.mem_append.mpr (.inr hcl')))))) (fun it oit s hit S => ?_)
  have inv0 : Inv fix .start ⟨[], [], 0, false, false, 0, 0⟩ ⟨[], [], 0, false, false, 0, 0⟩ false 0 false 0 := ⟨rfl, (fun _ h => nomatch h), ⟨fun h => (nomatch h), fun ⟨_, h, _⟩ => (nomatch h)⟩, ⟨rfl, rfl, rfl, rfl, rfl, rfl, rfl⟩, by decide, by decide, by decide, by decide⟩
  refine forL (vs := vs') (n := nc) (l := cl) (fun rem G' m' news' => JL w fix x1 d1 pl1 x2 d2 pl2 tot tt rem m' news') hh S hit ⟨Wa, Wb, _, _, _, false, 0, false, .start, cs0, 0, rfl, hWa, hWb, .inl rfl, hca', htodo, inv0, by omega, M⟩ ?_ ?_ ?_
  · rintro rem G' m' news' ⟨Wa, Wb, T, a, b, sd, hid, en, ph, cs, n, rfl, _⟩
    exact List.mem_append.mpr (.inr (List.mem_append.mpr (.inr (List.mem_append.mpr (.inr hcl')))))
  · rintro v rem G' m' news' oit' s ⟨Wa, Wb, T, a, b, sd, hid, en, ph, cs, n, rfl, hWa, hWb, hT, hcs, htd, inv, hn, M0⟩ S0
    refine wpAny_mono (Q := fun fl s₃ => (fl = .next ∨ fl = .cont) ∧ ∃ G'' m'' news'', JL w fix x1 d1 pl1 x2 d2 pl2 tot tt rem m'' news'' ∧ St B os G'' L' m'' ((it, oit') :: news'') s₃) (E := fun _ _ => False) ?_ ?_ (fun _ _ z => z.elim)
    rotate_left
    · rintro fl s₃ ⟨rfl | rfl, h⟩
      · exact h
      · exact h
    have hnr : n + 1 + rem.length ≤ 100 := by rw [List.length_cons] at hn; omega
    have up : ∀ {Wa Wb T : List Cell} {p : Cell}, p ∈ fix → p ∈ (it, oit') :: (Wa ++ (Wb ++ (T ++ fix))) := fun hp => .tail _ (List.mem_append.mpr (.inr (List.mem_append.mpr (.inr (List.mem_append.mpr (.inr hp))))))
    cases hcs with
    | cons hc hcs' =>
    rename_i c cs'
    obtain ⟨mc, S, M, ec⟩ : ∃ mc, St B os G' L' mc ((it, oit') :: (Wa ++ (Wb ++ (T ++ fix)))) s ∧ M4 mc x1 x2 pl1 pl2 tot tt hid sd en ∧ mc (Str.ofString "call") = some v := ⟨_, S0, M0.put (by decide), put_eq⟩
    clear S0 M0
    refine wpAny_execs_cons (Assign_Tuple (ld S.F ec ?_))
    cases c with
    | text y =>
      obtain ⟨ct, t0, t1, rfl, hct⟩ := hc
      refine unpack2S S hh (up hct) (fun s S => ?_)
      obtain ⟨mk, S, M, ek, ew⟩ : ∃ mk, St B os G' L' mk ((it, oit') :: (Wa ++ (Wb ++ (T ++ fix)))) s ∧ M4 mk x1 x2 pl1 pl2 tot tt hid sd en ∧ mk (Str.ofString "kind") = some (.int 2 t0) ∧ mk (Str.ofString "what") = some (.str y t1) := ⟨_, S, M4.put (nm := (Str.ofString "what")) (M4.put (nm := (Str.ofString "kind")) M (by decide)) (by decide), by rfl, by rfl⟩
      refine wpAny_execs_cons (testS S ek rfl rfl rfl (fun s S => ?_))
      have S := S.sink
      refine wpAny_execs_cons (dataStmt C (by simp only [depth_deeper]; omega) S hWa (by have := inv.d1; omega) M.tg ew rfl rfl rfl rfl rfl (fun Wa' s hWa' S => ?_))
      refine wpAny_execs_cons (wpAny_If (wpAny_isTrue_value (wpAny_Call_ofName (bltS C S (by k_is) (v := .builtin "isinstance") (by decide +kernel) (by decide) ?_))))
      refine PyProof.Rows.callWith_builtin1 (spNm (ld S.F ew ?_)) starNm
      refine spNm (bltS C S (by k_is) (v := .type "str") (by decide +kernel) (by decide) ?_)
      refine spliced_none (isiYes (wpAny_truthy_bool (ifT rfl ?_)))
      have S := S.perm (pm0 ..)
      refine wpAny_execs_cons (dataStmt C (by simp only [depth_deeper]; omega) S hWb (by have := inv.bdata; omega) M.ot ew rfl rfl rfl rfl rfl (fun Wb' s hWb' S => ?_))
      have S := S.perm (pm00 ..)
      refine wpAny_execs_nil (wpAny_execs_cons (wpAny_Continue ?_))
      obtain ⟨ph', htd', inv'⟩ := inv.text htd rfl
      exact ⟨.inr rfl, G', mk, _, ⟨Wa', Wb', T, _, _, sd, hid, en, ph', cs', n + 1, rfl, hWa', hWb', hT, hcs', htd', inv', hnr, M⟩, S⟩
    | bad =>
      obtain ⟨ct, t0, u, rfl, hct, hno⟩ := hc
      refine unpack2S S hh (up hct) (fun s S => ?_)
      obtain ⟨mk, S, M, ek, ew⟩ : ∃ mk, St B os G' L' mk ((it, oit') :: (Wa ++ (Wb ++ (T ++ fix)))) s ∧ M4 mk x1 x2 pl1 pl2 tot tt hid sd en ∧ mk (Str.ofString "kind") = some (.int 2 t0) ∧ mk (Str.ofString "what") = some u := ⟨_, S, M4.put (nm := (Str.ofString "what")) (M4.put (nm := (Str.ofString "kind")) M (by decide)) (by decide), by rfl, by rfl⟩
      refine wpAny_execs_cons (testS S ek rfl rfl rfl (fun s S => ?_))
      have S := S.sink
      refine wpAny_execs_cons (dataStmt C (by simp only [depth_deeper]; omega) S hWa (by have := inv.d1; omega) M.tg ew rfl rfl rfl rfl rfl (fun Wa' s hWa' S => ?_))
      have S := S.perm (List.perm_middle)
      refine wpAny_execs_cons (wpAny_If (wpAny_isTrue_value (wpAny_Call_ofName (bltS C S (by k_is) (v := .builtin "isinstance") (by decide +kernel) (by decide) ?_))))
      refine PyProof.Rows.callWith_builtin1 (spNm (ld S.F ew ?_)) starNm
      refine spNm (bltS C S (by k_is) (v := .type "str") (by decide +kernel) (by decide) ?_)
      refine spliced_none (isiNo S (hno.mono fun p hp => up hp) (fun s S => wpAny_truthy_bool (ifF rfl ?_)))
      obtain ⟨ph', htd', inv'⟩ := inv.bad htd hno
      obtain ⟨th, ehi⟩ := M.hi
      refine wpAny_execs_cons (testS S ehi rfl rfl rfl (fun s S => ?_))
      by_cases hz : hid = 0
      · rw [if_pos (by rw [hz]; rfl)]
        rw [if_pos hz] at inv'
        refine wpAny_execs_cons (wpAny_Assign_Name (wpAny_Constant_bool (stS S (fun s S => ?_))))
        refine wpAny_execs_nil (wpAny_execs_nil (wpAny_execs_cons (wpAny_Continue ?_)))
        exact ⟨.inr rfl, G', _, _, ⟨Wa', Wb, T, _, _, true, hid, en, ph', cs', n + 1, rfl, hWa', hWb, hT, hcs', htd', inv', hnr, M.putSp⟩, S⟩
      · have hz' : ((hid : Int) == 0) = false := by
          rw [beq_eq_false_iff_ne]; omega
        rw [if_neg (by rw [hz']; decide)]
        rw [if_neg hz] at inv'
        refine wpAny_execs_nil (wpAny_execs_nil (wpAny_execs_cons (wpAny_Continue ?_)))
        exact ⟨.inr rfl, G', _, _, ⟨Wa', Wb, T, _, _, sd, hid, en, ph', cs', n + 1, rfl, hWa', hWb, hT, hcs', htd', inv', hnr, M⟩, S⟩
    | tell kd y =>
      obtain ⟨ct, t0, t1, rfl, hct⟩ := hc
      obtain ⟨hkd, hy⟩ := htd.kd
      refine unpack2S S hh (up hct) (fun s S => ?_)
      obtain ⟨mk, S, M, ek, ew, ec⟩ : ∃ mk, St B os G' L' mk ((it, oit') :: (Wa ++ (Wb ++ (T ++ fix)))) s ∧ M4 mk x1 x2 pl1 pl2 tot tt hid sd en ∧ mk (Str.ofString "kind") = some (.int kd t0) ∧ mk (Str.ofString "what") = some (.str y t1) ∧ mk (Str.ofString "call") = some (.ref ct) := ⟨_, S, M4.put (nm := (Str.ofString "what")) (M4.put (nm := (Str.ofString "kind")) M (by decide)) (by decide), by rfl, by rfl, by exact ec⟩
      have hk2 : ((kd : Int) == 2) = false := by
        rw [beq_eq_false_iff_ne]
        simp only [List.mem_cons, List.not_mem_nil, or_false] at hkd
        omega
      refine wpAny_execs_cons (testS S ek rfl rfl rfl (fun s S => ?_))
      rw [if_neg (by rw [hk2]; decide)]
      refine wpAny_execs_nil ?_
      obtain ⟨th, ehi⟩ := M.hi
      refine wpAny_execs_cons (wpAny_Assign_Name (wpAny_mono (orV (vGt ehi rfl rfl rfl) (orV (vNm M.en rfl rfl rfl) (orV (vTup (by simp only [units_deeper]; omega) ec (up hct) rfl rfl rfl) (fun s S => BoolOp_one (andV (vEq ek rfl rfl rfl) (vMod (by decide) M.to rfl rfl rfl) s S)))) s S) ?_ (fun _ _ z => z)))
      rintro _ s ⟨rfl, S⟩
      refine stS S (fun s S => ?_)
      obtain ⟨sil, hsil, ms, S, M, ek, ew, ec, es⟩ : ∃ sil, (sil = true ↔ Quiet (wcOf tot) a kd y) ∧ ∃ ms, St B os G' L' ms ((it, oit') :: (Wa ++ (Wb ++ (T ++ fix)))) s ∧ M4 ms x1 x2 pl1 pl2 tot tt hid sd en ∧ ms (Str.ofString "kind") = some (.int kd t0) ∧ ms (Str.ofString "what") = some (.str y t1) ∧ ms (Str.ofString "call") = some (.ref ct) ∧ ms (Str.ofString "silent") = some (.bool sil) := ⟨_, inv.quiet htd rfl, _, S, M4.put (nm := (Str.ofString "silent")) M (by decide), by exact ek, by exact ew, by exact ec, by rfl⟩
      refine stmt_cut (fun s => ∃ a1 Wa1 sd1 mi, St B os G' L' mi ((it, oit') :: (Wa1 ++ (Wb ++ (T ++ fix)))) s ∧ Wr prog4 w 143 (wcOf tot) (spOf tot) x1 d1 pl1 a1 Wa1 ∧ Inv fix ph a1 b sd1 hid en n ∧ (sd1 = false ∨ Quiet (wcOf tot) a1 kd y) ∧ M4 mi x1 x2 pl1 pl2 tot tt hid sd1 en ∧ mi (Str.ofString "kind") = some (.int kd t0) ∧ mi (Str.ofString "what") = some (.str y t1) ∧ mi (Str.ofString "call") = some (.ref ct)) ?_ ?_
      · refine wpAny_If (and2 S (fun s S => wpAny_isTrue_value (ld S.F M.sp (wpAny_truthy_bool ⟨rfl, S⟩))) (fun s S => wpAny_isTrue_Not (wpAny_isTrue_value (ld S.F es (wpAny_truthy_bool ⟨rfl, S⟩)))) (fun s S => ?_))
        cases sd with
        | false => exact ifF rfl (wpAny_execs_nil ⟨rfl, a, Wa, false, ms, S, hWa, inv, .inl rfl, M, ek, ew, ec⟩)
        | true =>
          cases sil with
          | true => exact ifF rfl (wpAny_execs_nil ⟨rfl, a, Wa, true, ms, S, hWa, inv, .inr (hsil.mp rfl), M, ek, ew, ec⟩)
          | false =>
            refine ifT rfl ?_
            obtain ⟨hns, hseen⟩ := inv.notStart
            obtain ⟨v2, n2, i2, o2⟩ := hWb.plist
            have hq : ¬ Quiet (wcOf tot) a kd y := fun h => by cases hsil.mpr h
            have hbo : b.out = a.out := by rw [inv.hb]
            refine wpAny_execs_cons (refuseLoop C (by omega) hh hA S hWa (fun p hp => .tail _ (List.mem_append.mpr (.inl hp))) (inv.spoilt (fun p hp => up hp) (by omega)) (up hct) hkd hq hseen (.tail _ (List.mem_append.mpr (.inr (List.mem_append.mpr (.inl i2))))) (by rw [o2.length, hbo]) (by have := inv.d2; omega) M.tg ec M.pc M.pn rfl rfl rfl rfl rfl rfl rfl rfl rfl rfl rfl (fun mr s er S => ?_))
            have M := M.of er
            have ek := (er (Str.ofString "kind") (by decide) (by decide)).trans ek
            have ew := (er (Str.ofString "what") (by decide) (by decide)).trans ew
            have ec := (er (Str.ofString "call") (by decide) (by decide)).trans ec
            have sb := inv.spoilt (news := Wa ++ ((it, oit') :: (Wb ++ (T ++ fix)))) (fun p hp => List.mem_append.mpr (.inr (.tail _ (List.mem_append.mpr (.inr (List.mem_append.mpr (.inr hp))))))) (by omega)
            refine wpAny_execs_cons (cleanStmt (q15 := ⟨0, 0, 0, 0⟩) (q16 := ⟨0, 0, 0, 0⟩) C hh S.sink hWa sb.all (by have := inv.d1; omega) M.tg rfl rfl (fun Wa' s hWa' S => ?_))
            refine wpAny_execs_cons (wpAny_Assign_Name (wpAny_Constant_bool (stS S (fun s S => ?_))))
            refine wpAny_execs_nil ⟨rfl, _, Wa', false, _, S.perm List.perm_middle, hWa', inv.clean hns, .inl rfl, M.putSp, by exact ek, by exact ew, by exact ec⟩
      · rintro s ⟨a1, Wa1, sd1, mi, S, hWa1, inv1, hq1, M, ek, ew, ec⟩
        obtain ⟨ca, cb⟩ := inv1.can htd (by omega) hq1
        refine wpAny_execs_cons (tellStmt H C (by simp only [depth_deeper]; omega) hh (S.perm (pm1 ..)) hT hWa1 (.tail _ (List.mem_append.mpr (.inr hct))) hkd ca M.tg ec rfl rfl rfl rfl rfl (fun G2 Wa2 T2 s hT2 hWa2 S => ?_))
        refine wpAny_execs_cons (tellStmt H C (by simp only [depth_deeper]; omega) hh (S.perm (pm2 ..)) hT2 hWb (.tail _ (List.mem_append.mpr (.inr hct))) hkd cb M.ot ec rfl rfl rfl rfl rfl (fun G3 Wb2 T3 s hT3 hWb2 S => ?_))
        have S := S.perm (pm3 ..)
        obtain ⟨ph', htd', inv'⟩ := inv1.tell (sp := spOf tot) htd hq1
        obtain ⟨th, ehi⟩ := M.hi
        refine stmt_cut (fun s => ∃ mh, St B os G3 L' mh ((it, oit') :: (Wa2 ++ (Wb2 ++ (T3 ++ fix)))) s ∧ M4 mh x1 x2 pl1 pl2 tot tt (nextHid kd y hid) sd1 en ∧ mh (Str.ofString "call") = some (.ref ct)) ?_ ?_
        · refine wpAny_If (and2 S (fun s S => cmpEq S ek (fun s S => ⟨rfl, S⟩)) (fun s S => or2 S (fun s S => cmpGt S ehi (fun s S => ⟨rfl, S⟩)) (fun s S => wpAny_isTrue_Compare1 (ld S.F ew (cStr S (fun _ s S => PySem.P.eq_str (wpAny_truthy_bool ⟨strEqB .., S⟩))))) (fun s S => ⟨rfl, S⟩)) (fun s S => ?_))
          cases q : (((kd : Int) == 0) && (decide ((0 : Int) < (hid : Int)) || decide (y = (Str.ofString "x")))) with
          | true =>
            refine ifT rfl ?_
            rw [nextHid_up q]
            refine wpAny_execs_cons (wpAny_AugAssign_Name (ldn S.F ehi (cInt S (fun _ s S => PySem.AutoIntOps.iadd_0 ?_))))
            refine stS S.tk (fun s S => ?_)
            exact wpAny_execs_nil ⟨rfl, _, S, M.putHi, by exact ec⟩
          | false =>
            refine ifF rfl ?_
            rw [nextHid_not q]
            refine wpAny_execs_cons (wpAny_If (and2 S (fun s S => cmpEq S ek (fun s S => ⟨rfl, S⟩)) (fun s S => cmpGt S ehi (fun s S => ⟨rfl, S⟩)) (fun s S => ?_)))
            cases q2 : (((kd : Int) == 1) && decide ((0 : Int) < (hid : Int))) with
            | true =>
              refine ifT rfl ?_
              rw [if_pos rfl]
              have h0 : 0 < hid := by
                simp only [Bool.and_eq_true, beq_iff_eq, decide_eq_true_eq] at q2
                omega
              refine wpAny_execs_cons (wpAny_AugAssign_Name (ldn S.F ehi (cInt S (fun _ s S => PySem.AutoIntOps.isub_0 ?_))))
              refine stS S.tk (fun s S => ?_)
              have e : ((hid : Int) - 1) = ((hid - 1 : Nat) : Int) := by omega
              rw [e] at S
              exact wpAny_execs_nil (wpAny_execs_nil ⟨rfl, _, S, M.putHi, by exact ec⟩)
            | false =>
              refine ifF rfl ?_
              rw [if_neg (by decide)]
              exact wpAny_execs_nil (wpAny_execs_nil ⟨rfl, _, S, M, ec⟩)
        · rintro s ⟨mh, S, M, ec⟩
          refine wpAny_execs_cons (wpAny_Assign_Name (wpAny_mono (orV (vNm M.en rfl rfl rfl) (fun s S => BoolOp_one (vTup (by simp only [units_deeper]; omega) ec (up hct) rfl rfl rfl s S)) s S) ?_ (fun _ _ z => z)))
          rintro _ s ⟨rfl, S⟩
          refine stS S (fun s S => ?_)
          have M := M.putEn (en' := en || (decide ((kd : Int) = 1) && decide (y = (Str.ofString "r"))))
          obtain ⟨v1, n1, i1, o1⟩ := hWa2.plist
          obtain ⟨v2, n2, i2, o2⟩ := hWb2.plist
          have hbo := congrArg Abs.out inv'.hb
          have hlen1 : v1.length = v2.length := by rw [o1.length, o2.length, hbo]
          refine wpAny_execs_cons (wpAny_If (lenNe C S M.pc M.pn (.tail _ (List.mem_append.mpr (.inl i1))) (.tail _ (List.mem_append.mpr (.inr (List.mem_append.mpr (.inl i2))))) hlen1 (by rw [o1.length]; have := inv'.d2; omega) (fun s S => ifF rfl ?_) rfl rfl rfl rfl rfl rfl))
          refine wpAny_execs_nil (wpAny_execs_nil ?_)
          exact ⟨.inl rfl, G3, _, _, ⟨Wa2, Wb2, T3, _, _, sd1, _, _, ph', cs', n + 1, rfl, hWa2, hWb2, hT3, hcs', htd', inv', hnr, M⟩, S⟩
  · rintro G' m' news' s ⟨Wa, Wb, T, a, b, sd, hid, en, ph, cs, n, rfl, hWa, hWb, hT, hcs, htd, inv, hn, M⟩ S
    show wpAny _ _ (execs _ _) _ _ _
    obtain ⟨v1, n1, i1, o1⟩ := hWa.plist
    obtain ⟨v2, n2, i2, o2⟩ := hWb.plist
    have hbo : b.out = a.out := by rw [inv.hb]
    refine wpAny_execs_cons (wpAny_Return_some (wpAny_Compare1 (ld S.F M.pc (ld S.F M.pn ?_))))
    refine listEq S (List.mem_append.mpr (.inl i1)) (List.mem_append.mpr (.inr (List.mem_append.mpr (.inl i2)))) o1 (by rw [← hbo]; exact o2) (by show (A.deeper _).units < _; simp only [units_deeper]; omega) ?_
    exact k G' m' T (Wa ++ (Wb ++ fix)) _ hT (S.perm (pm4 ..))
end
end Mine
end
open PySem PySem.W PySem.Calls PyProof.Rows
set_option Elab.async false
set_option maxRecDepth 100000
set_option maxHeartbeats 8000000
set_option linter.unusedVariables false
namespace Mine
/-- the law came back with True: the old objects stand but for one table that grew, and nothing else was touched -/
theorem endTrue {c : ClaimW} {cl : Str → Option Addr} {mean : ExcName → Option Value} {args : List WData} {s₁ s' : Shared} {cc P : Addr} {ps : Array Value} (hT : TabsAt [(cc, P)] s₁.heap) (hk : ∀ b o, (ghostOf s₁.heap [(cc, P)]).get? b = some o → s'.heap.get? b = some o)
    (hP : s'.heap.get? P = some (tabObj ps)) (hos : s'.os = s₁.os) (hg : AllBare s'.gens) (hr : ∀ x, c.raises args x = false) (hp : c.post args (.bool true) args = true) : GoodWG c cl mean args s₁ (.ok (.ret (.bool true))) s' := by
  obtain ⟨hc, he⟩ := hT (cc, P) (.head _)
  have old : ∀ b o, b ≠ P → s₁.heap.get? b = some o → s'.heap.get? b = some o := fun b o hb e => hk b o (ghost_ne e fun q => hb (by simpa using q))
  refine ⟨.inl ⟨_, _, [], rfl, hr, .bool true, hp, fun _ => ⟨List.nodup_nil, fun _ q => nomatch q⟩⟩, ⟨fun b o e => ?_, fun b o e => ?_⟩, hos, hg⟩
  · by_cases hb : b = P
    · subst hb
      have q := he.symm.trans e
      cases q
      exact .inr (.inl ⟨(hc.tab he).isCodeTable, rfl, #[], ps, rfl, by rw [Array.empty_append]; exact hP⟩)
    · exact .inl (old b o hb e)
  · by_cases hb : b = P
    · exact ⟨_, hb ▸ hP⟩
    · exact ⟨o, old b o hb e⟩
theorem Tb.at {w : World} {T : List Cell} (h : Tb w T) : ∃ ps, (116, tabObj ps) ∈ T := by
  rcases h with rfl | ⟨c', oc, rfl, _⟩
  · exact ⟨_, .head _⟩
  · exact ⟨_, .tail _ (.head _)⟩
end Mine
theorem PySem.Challenge.cw_dr0139_04_holds : PySem.Challenge.rw_dr0139_04.Holds := by
  refine Mine.hd ?_
  k_fill
  intro w s₀ s₁ mg mb G Y fa o pm cd doc dV kV ho hd hcd hD hmg hg args vals as hpre hlay hrd hwl hlo
  have KX := km_in_of Y
  have hT8 := km_tabs_of Y
  have hT9 : TabsAt [(118, 116)] s₁.heap := List.forall_mem_cons.mpr ⟨⟨codeHd_of_K (c := 118) (P := 116) KX (by kernel_rfl), hT8 116 (.head _)⟩, fun _ h => nomatch h⟩
  refine Ground.open G ?_
  intro T B D TE TW
  try (refine guard_noD D (by decide +kernel) ?_; clear D)
  clear hmg
  wrow_args hpre hlay hrd hwl hlo
  refine enter_call ?_
  w_top on
  w_call any ho hd hcd hD T F
  clear hd
  rename News _ _ _ _ => N
  have X' := ghost_K hT9 KX (by kernel_rfl)
  have T' := ghost_top hT9 T
  have N' := ghost_news hT9 F N
  have F' := ghost_fr hT9 F
  rename IntsAre _ _ => hI
  rename Heap.IsList _ _ _ => hL
  have hls := ghost_list hT9 hL
  refine Mine.law_spec (by k_is) ⟨⟨_, _, _, _, _, T'⟩, (ghost_code hT9).1⟩ ⟨X', T'.nolimit, ⟨_, _, _, _, topRead_of T'⟩⟩ (by decide +kernel) rfl rfl (by decide +kernel) ⟨F', N', (by decide), hg, .of_eq rfl, rfl⟩ hls hI (by omega) (fun G' m' T news' s' hT S => ?_)
  obtain ⟨ps, hps⟩ := hT.at
  exact Mine.endTrue hT9 S.F.keep (S.get (List.mem_append_left _ hps)) S.os (by rw [S.gens]; exact S.bare) (fun _ => rfl) (by wrow_post)
