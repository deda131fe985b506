import PyProof.Rows.All
import Wide.All
import OpenK.AllK
import Wide.FinOn
import OpenK.KRaiseN
import OpenK.KExp
import PySem.Challenge.RW_wv0025_01
set_option Elab.async false

namespace Mine
open PySem PySem.W PyProof.Rows PySem.Calls

section
open PySem PySem.W PyProof.Rows
set_option maxRecDepth 100000 in
set_option maxHeartbeats 8000000 in
open_top hd for PySem.Challenge.rw_wv0025_01
end

section
open PySem PySem.W PyProof.Rows PySem.Calls
set_option maxRecDepth 100000

/-- what every callee needs of the heap at its call -/
structure Okay (w : World) (h : Heap) : Prop where
  K : (hd.heap_39 w.params).In h
  lim : h.NoLimit
  T : ∃ p loose mean mg mb, Top p loose mean mg mb h

theorem Okay.keeps {w : World} {h h' : Heap} (x : Okay w h) (k : ∀ b o, h.get? b = some o → h'.get? b = some o) : Okay w h' :=
  ⟨x.K.keeps k, x.lim.keeps k, let ⟨p, l, mn, mg, mb, t⟩ := x.T; ⟨p, l, mn, mg, mb, t.keeps k⟩⟩

noncomputable def fnObj (P : Params) (a : Addr) : Obj := ((hd.heap_39 P).lookup a).getD default

/-- the heap h' bears all that h bears -/
noncomputable def Kp (h h' : Heap) : Prop := ∀ b o, h.get? b = some o → h'.get? b = some o
theorem Kp.refl (h : Heap) : Kp h h := fun _ _ e => e
theorem Kp.trans {a b c : Heap} (x : Kp a b) (y : Kp b c) : Kp a c := fun q o e => y q o (x q o e)
theorem Kp.push (h : Heap) (o : Obj) : Kp h (h.push o) := fun _ _ e => Heap.get?_push_of_some _ e

/-- where a call stands: nothing handled, room for frames -/
structure AOk (A : Around) (d : Nat) : Prop where
  hd : A.handled = none
  dp : A.depth + d ≤ 900
  un : A.units + 20 * d ≤ 5000
theorem AOk.deeper {A : Around} {d : Nat} (x : AOk A (d + 1)) (env : Env) : AOk (A.deeper env) d :=
  ⟨x.hd, by have := x.dp; rw [depth_deeper]; omega, by have := x.un; rw [units_deeper]; omega⟩
theorem AOk.less {A : Around} {d e : Nat} (x : AOk A d) (h : e ≤ d) : AOk A e := ⟨x.hd, by have := x.dp; omega, by have := x.un; omega⟩

structure EnvOk (env : Env) (names : List (Str × NameKind)) (L : Addr) (cl : List (Str × Addr)) : Prop where
  names : env.scope.names = names
  kind : env.scope.kind = .function
  loc : env.locals = L
  glob : env.globals = mainGlobals
  bi : env.builtins = builtinsNs
  cells : env.cells = cl

/-- the state of a frame: its names, its cells, the objects of this call that are known, all that stood in b kept -/
structure St (b : Heap) (L : Addr) (cl : List (Str × Addr)) (h : Heap) (m cm : Str → Option Value) (vol : List (Addr × Obj)) : Prop where
  ns : h.Ns L m
  keep : ∀ a o, b.get? a = some o → h.get? a = some o
  cell : ∀ n c, cl.lookup n = some c → h.IsCell c (cm n)
  vols : ∀ p ∈ vol, h.get? p.1 = some p.2
  sz : b.objs.size ≤ L
  apart : cl.Pairwise fun x y => x.2 ≠ y.2
  cL : ∀ n c, (n, c) ∈ cl → c ≠ L
  vL : ∀ p ∈ vol, p.1 ≠ L
  vc : ∀ p ∈ vol, ∀ n c, (n, c) ∈ cl → p.1 ≠ c
  nd : (vol.map (·.1)).Nodup
  ck : (cl.map (·.1)).Nodup

namespace St
variable {b : Heap} {L : Addr} {cl : List (Str × Addr)} {h h' : Heap} {m cm m' : Str → Option Value} {vol : List (Addr × Obj)}
theorem bL (S : St b L cl h m cm vol) : b.get? L = none := Heap.get?_none_of_le S.sz
theorem step (S : St b L cl h m cm vol) (k : Kp h h') : St b L cl h' m cm vol :=
  ⟨S.ns.keeps k, fun a o e => k _ _ (S.keep a o e), fun n c hc => (S.cell n c hc).keeps k, fun p hp => k _ _ (S.vols p hp), S.sz, S.apart, S.cL, S.vL, S.vc, S.nd, S.ck⟩
theorem setL (S : St b L cl h m cm vol) (hn : h'.Ns L m') (hs : Heap.SameBut L h h') : St b L cl h' m' cm vol :=
  ⟨hn, fun a o e => (hs.2 a (fun q => by rw [q, S.bL] at e; cases e)).trans (S.keep a o e), fun n c hc => (S.cell n c hc).sameBut hs (S.cL n c (mem_of_lookup hc)),
    fun p hp => (hs.2 p.1 (S.vL p hp)).trans (S.vols p hp), S.sz, S.apart, S.cL, S.vL, S.vc, S.nd, S.ck⟩
theorem setC (S : St b L cl h m cm vol) {n : Str} {c : Addr} {v : Option Value} (hc : cl.lookup n = some c) (hb : b.get? c = none) (hv : h'.IsCell c v) (hs : Heap.SameBut c h h') :
    St b L cl h' m (fun y => if y = n then v else cm y) vol :=
  ⟨S.ns.sameBut hs (Ne.symm (S.cL n c (mem_of_lookup hc))), fun a o e => (hs.2 a (fun q => by rw [q, hb] at e; cases e)).trans (S.keep a o e),
    fun k c' hc' => by
      by_cases hk : k = n
      · subst hk
        rw [hc] at hc'; cases hc'
        simpa using hv
      · rw [if_neg hk]
        exact (S.cell k c' hc').sameBut hs fun e => hk (name_of_addr S.apart (mem_of_lookup hc') (e ▸ mem_of_lookup hc)),
    fun p hp => (hs.2 p.1 (S.vc p hp n c (mem_of_lookup hc))).trans (S.vols p hp), S.sz, S.apart, S.cL, S.vL, S.vc, S.nd, S.ck⟩
/-- all but one object kept, that one known: -/
theorem stepB {pre post : List (Addr × Obj)} {a : Addr} {o o' : Obj} (S : St b L cl h m cm (pre ++ (a, o) :: post)) (hb : b.get? a = none) (k : Heap.ExtBut a h h') (ho : h'.get? a = some o') :
    St b L cl h' m cm (pre ++ (a, o') :: post) := by
  have ha : (a, o) ∈ pre ++ (a, o) :: post := List.mem_append_right _ (.head _)
  have hmap : (pre ++ (a, o') :: post).map (·.1) = (pre ++ (a, o) :: post).map (·.1) := by simp
  have back : ∀ p ∈ pre ++ (a, o') :: post, ∃ q ∈ pre ++ (a, o) :: post, q.1 = p.1 := fun p hp => by
    have : p.1 ∈ (pre ++ (a, o') :: post).map (·.1) := List.mem_map_of_mem hp
    rw [hmap] at this
    obtain ⟨q, hq, e⟩ := List.mem_map.mp this
    exact ⟨q, hq, e⟩
  have hnd := S.nd
  rw [List.map_append, List.map_cons, List.nodup_append] at hnd
  obtain ⟨_, n2, n3⟩ := hnd
  refine ⟨S.ns.extBut k (Ne.symm (S.vL _ ha)), fun x o e => k x o (fun q => by rw [q, hb] at e; cases e) (S.keep x o e),
    fun n c hc => let ⟨ob, e, d⟩ := S.cell n c hc; ⟨ob, k c ob (Ne.symm (S.vc _ ha n c (mem_of_lookup hc))) e, d⟩, fun p hp => ?_, S.sz, S.apart, S.cL, fun p hp => ?_, fun p hp => ?_, hmap ▸ S.nd, S.ck⟩
  · rcases List.mem_append.mp hp with hp | hp
    · exact k _ _ (fun q => n3 p.1 (List.mem_map_of_mem hp) a (.head _) q) (S.vols p (List.mem_append_left _ hp))
    · rcases List.mem_cons.mp hp with rfl | hp
      · exact ho
      · exact k _ _ (fun q => (List.nodup_cons.mp n2).1 (List.mem_map.mpr ⟨p, hp, q⟩)) (S.vols p (List.mem_append_right _ (.tail _ hp)))
  · obtain ⟨q, hq, e⟩ := back p hp; exact e ▸ S.vL q hq
  · obtain ⟨q, hq, e⟩ := back p hp; exact e ▸ S.vc q hq
theorem setV {pre post : List (Addr × Obj)} {a : Addr} {o o' : Obj} (S : St b L cl h m cm (pre ++ (a, o) :: post)) (hb : b.get? a = none) (hs : Heap.SameBut a h h') (ho : h'.get? a = some o') :
    St b L cl h' m cm (pre ++ (a, o') :: post) := S.stepB hb hs.extBut ho
theorem more (S : St b L cl h m cm vol) {a : Addr} {o : Obj} (ho : h.get? a = some o) (nL : a ≠ L) (nc : ∀ n c, (n, c) ∈ cl → a ≠ c) (nv : ∀ p ∈ vol, p.1 ≠ a) : St b L cl h m cm ((a, o) :: vol) := by
  refine ⟨S.ns, S.keep, S.cell, fun p hp => ?_, S.sz, S.apart, S.cL, fun p hp => ?_, fun p hp n c hc => ?_, ?_, S.ck⟩
  · rcases List.mem_cons.mp hp with rfl | hp
    · exact ho
    · exact S.vols p hp
  · rcases List.mem_cons.mp hp with rfl | hp
    · exact nL
    · exact S.vL p hp
  · rcases List.mem_cons.mp hp with rfl | hp
    · exact nc n c hc
    · exact S.vc p hp n c hc
  · rw [List.map_cons, List.nodup_cons]
    refine ⟨fun q => ?_, S.nd⟩
    obtain ⟨p, hp, e⟩ := List.mem_map.mp q
    exact nv p hp e
theorem lt (S : St b L cl h m cm vol) {p : Addr × Obj} (hp : p ∈ vol) : p.1 < h.objs.size := Heap.lt_size (S.vols p hp)
theorem clt (S : St b L cl h m cm vol) {n : Str} {c : Addr} (hc : (n, c) ∈ cl) : c < h.objs.size := (S.cell n c (lookup_of_mem_nodup S.ck hc)).lt
theorem blt (S : St b L cl h m cm vol) {a : Addr} (ha : h.get? a = none) : b.get? a = none := by
  cases q : b.get? a with
  | none => rfl
  | some o => have := S.keep _ _ q; rw [ha] at this; cases this
theorem addV (S : St b L cl h m cm vol) (k : Kp h h') {a : Addr} {o : Obj} (hf : h.get? a = none) (ho : h'.get? a = some o) : St b L cl h' m cm ((a, o) :: vol) := by
  refine (S.step k).more ho ?_ (fun n c hc => ?_) fun p hp => ?_
  · rintro rfl
    obtain ⟨x, _, _, e, _⟩ := S.ns
    rw [hf] at e; cases e
  · rintro rfl
    obtain ⟨x, e, _⟩ := S.cell n _ (lookup_of_mem_nodup S.ck hc)
    rw [hf] at e; cases e
  · intro e
    have := S.vols p hp
    rw [e, hf] at this; cases this
theorem sub {vol' : List (Addr × Obj)} (S : St b L cl h m cm vol) (hs : vol'.Sublist vol) : St b L cl h m cm vol' :=
  ⟨S.ns, S.keep, S.cell, fun p hp => S.vols p (hs.subset hp), S.sz, S.apart, S.cL, fun p hp => S.vL p (hs.subset hp), fun p hp => S.vc p (hs.subset hp), S.nd.sublist (hs.map _), S.ck⟩
end St

theorem itT {p q : Prop} (h : p) : (if true = true then p else q) := by simpa using h
theorem itF {p q : Prop} (h : q) : (if false = true then p else q) := by simpa using h
theorem itB {c : Bool} {p q : Prop} (h1 : c = true → p) (h2 : c = false → q) : (if c = true then p else q) := by cases c with | true => simpa using h1 rfl | false => simpa using h2 rfl
/-- the state s with another heap and other tokens -/
@[reducible] noncomputable def sh (s : Shared) (h : Heap) (tk : Nat) : Shared := { s with heap := h, toks := tk }
theorem sh_self (s : Shared) : sh s s.heap s.toks = s := rfl

section
variable {prog : Program} {w : World} {A : Around} {E : Value → Shared → Prop} {s : Shared} {h : Heap} {tk : Nat} {env : Env} {names : List (Str × NameKind)} {L : Addr} {cl : List (Str × Addr)}
  {b g : Heap} {m cm : Str → Option Value} {vol : List (Addr × Obj)}

theorem EnvOk.kindOf (V : EnvOk env names L cl) (x : Str) : env.kindOf x = names.lookup x := by unfold Env.kindOf; rw [V.names]
theorem EnvOk.plain (V : EnvOk env names L cl) : (env.scope.kind == .class || (env.scope.kind == .module && env.locals != env.globals)) = false := by rw [V.kind]; rfl

/-- a local name -/
theorem nL {x : Str} {pos : Pos} {v : Value} {Q : Value → Shared → Prop} (V : EnvOk env names L cl) (k : Kp g h) (S : St b L cl g m cm vol) (hl : names.lookup x = some .local) (hv : m x = some v) (hq : Q v (sh s h tk))
    (hd : (x == ("__debug__" : Str)) = false := by decide) : wpAny (model prog w) A (eval (.Name x pos) env) Q E (sh s h tk) :=
  wpAny_Name (wpAny_loadName_local V.kind ((V.kindOf x).trans hl) (V.loc ▸ S.ns.keeps k) hv hq) hd
theorem lnL {x : Str} {v : Value} {Q : Value → Shared → Prop} (V : EnvOk env names L cl) (k : Kp g h) (S : St b L cl g m cm vol) (hl : names.lookup x = some .local) (hv : m x = some v) (hq : Q v (sh s h tk)) :
    wpAny (model prog w) A (loadName env x) Q E (sh s h tk) := wpAny_loadName_local V.kind ((V.kindOf x).trans hl) (V.loc ▸ S.ns.keeps k) hv hq
/-- a cell's name -/
theorem nC {x : Str} {pos : Pos} {v : Value} {c : Addr} {Q : Value → Shared → Prop} (V : EnvOk env names L cl) (k : Kp g h) (S : St b L cl g m cm vol) (hl : names.lookup x = some .cell) (hc : cl.lookup x = some c) (hv : cm x = some v) (hq : Q v (sh s h tk))
    (hd : (x == ("__debug__" : Str)) = false := by decide) : wpAny (model prog w) A (eval (.Name x pos) env) Q E (sh s h tk) :=
  wpAny_Name (wpAny_loadName_cell V.kind ((V.kindOf x).trans hl) (V.cells ▸ hc) (hv ▸ (S.cell x c hc).keeps k) hq) hd
theorem nF {x : Str} {pos : Pos} {v : Value} {c : Addr} {Q : Value → Shared → Prop} (V : EnvOk env names L cl) (k : Kp g h) (S : St b L cl g m cm vol) (hl : names.lookup x = some .free) (hc : cl.lookup x = some c) (hv : cm x = some v) (hq : Q v (sh s h tk))
    (hd : (x == ("__debug__" : Str)) = false := by decide) (hn : (x == ("__classdict__" : Str)) = false := by decide) : wpAny (model prog w) A (eval (.Name x pos) env) Q E (sh s h tk) :=
  wpAny_Name (wpAny_loadName_free V.kind ((V.kindOf x).trans hl) (V.cells ▸ hc) (hv ▸ (S.cell x c hc).keeps k) hq hn) hd
/-- a name of the top -/
theorem nG {x : Str} {pos : Pos} {v : Value} {Q : Value → Shared → Prop} (V : EnvOk env names L cl) (k : Kp g h) (S : St b L cl g m cm vol) (O : Okay w b) (hl : names.lookup x = some .globalImplicit)
    (e : nsIn (hd.heap_39 w.params) mainGlobals x = some (some v)) (hq : Q v (sh s h tk)) (hd : (x == ("__debug__" : Str)) = false := by decide) : wpAny (model prog w) A (eval (.Name x pos) env) Q E (sh s h tk) := by
  obtain ⟨p, l, mn, mg, mb, T⟩ := O.T
  exact Name_function_global V.kind ((V.kindOf x).trans hl) (loadGlobal_global (V.glob ▸ (T.g.keeps S.keep).keeps k) (mg_of O.K T.g e) hq) hd
theorem nB {x : Str} {pos : Pos} {v : Value} {Q : Value → Shared → Prop} (V : EnvOk env names L cl) (k : Kp g h) (S : St b L cl g m cm vol) (O : Okay w b) (hl : names.lookup x = some .globalImplicit)
    (e : nsIn (hd.heap_39 w.params) mainGlobals x = some none) (hv : bootBuiltins x = some v) (hq : Q v (sh s h tk)) (hn : x ≠ "__name__" := by decide) (hd : (x == ("__debug__" : Str)) = false := by decide) :
    wpAny (model prog w) A (eval (.Name x pos) env) Q E (sh s h tk) := by
  obtain ⟨p, l, mn, mg, mb, T⟩ := O.T
  exact Name_function_global V.kind ((V.kindOf x).trans hl) (loadGlobal_builtin (V.glob ▸ (T.g.keeps S.keep).keeps k) (mg_none_of O.K T.g e) (V.bi ▸ (T.b.keeps S.keep).keeps k) ((T.builtins x hn).trans hv) hq) hd
/-- stores -/
theorem stL {x : Str} {v : Value} {Q : Unit → Shared → Prop} (V : EnvOk env names L cl) (k : Kp g h) (S : St b L cl g m cm vol) (hl : names.lookup x = some .local)
    (hq : ∀ h', St b L cl h' (fun y => if y = x then some v else m y) cm vol → Q () (sh s h' (tk + 1))) : wpAny (model prog w) A (storeName env x v) Q E (sh s h tk) :=
  wpAny_storeName_local ((V.kindOf x).trans hl) (V.loc ▸ (S.step k).ns) (fun h' hn hs => hq h' ((S.step k).setL (V.loc ▸ hn) (V.loc ▸ hs))) V.plain
theorem stC {x : Str} {v : Value} {c : Addr} {Q : Unit → Shared → Prop} (V : EnvOk env names L cl) (k : Kp g h) (S : St b L cl g m cm vol) (hl : names.lookup x = some .cell) (hc : cl.lookup x = some c) (hLc : L ≤ c)
    (hq : ∀ h', St b L cl h' m (fun y => if y = x then some v else cm y) vol → Q () (sh s h' tk)) : wpAny (model prog w) A (storeName env x v) Q E (sh s h tk) :=
  wpAny_storeName_cell V.kind ((V.kindOf x).trans hl) (V.cells ▸ hc) ((S.step k).cell x c hc) fun h' hv hs => hq h' ((S.step k).setC hc (Heap.get?_none_of_le (Nat.le_trans S.sz hLc)) hv hs)

/-- entering a def of the top without cells; E: nothing flies -/
theorem enterP {R : Result → Shared → Prop} {a : Addr} {fd : FuncData} {body : List Stmt} {args : Args} (binds : List (Str × Value)) (vol : List (Addr × Obj)) {b : Heap} {d : Nat}
    (O : Okay w b) (hA : AOk A (d + 1)) (hb : Kp b h) (hsz : b.objs.size ≤ h.objs.size) (hv : ∀ p ∈ vol, h.get? p.1 = some p.2) (hnd : (vol.map (·.1)).Nodup)
    (hf : (hd.heap_39 w.params).lookup a = some (fnObj w.params a)) (hdt : (fnObj w.params a).data = .func fd)
    (hcd : codeIn (hd.heap_39 w.params) fd.code fd.qualname = true) (hbody : fd.body = .stmts body) (hbind : BindsTo (sh s h tk) fd args binds)
    (hcell : ∀ x ∈ fd.scope.names, x.2 ≠ .cell) (hloc : (binds.all fun x => decide (fd.scope.names.lookup x.1 = some .local)) = true)
    (hco : fd.scope.isCoroutine = false) (hgen : fd.scope.isGenerator = false) (hk : fd.scope.kind = .function) (hgl : fd.globals = mainGlobals) (hbi : fd.builtins = builtinsNs)
    (hq : ∀ env h₀ tk, EnvOk env fd.scope.names h.objs.size fd.closure → St b h.objs.size [] h₀ (fun x => binds.reverse.lookup x) (fun _ => none) vol → Kp h h₀ → AOk (A.deeper env) d →
      wpAny (model prog w) (A.deeper env) (execs body env) (fun f s' => R (.ok (.ret (match f with | .ret v => v | _ => .none))) s')
        (fun _ _ => False) (sh s h₀ tk)) :
    codeAny (model prog w) A (.call (.ref a) args) R (sh s h tk) := by
  have O' : Okay w h := O.keeps hb
  have fresh : ∀ (x : Heap), Kp x h → x.get? h.objs.size = none := fun x hx => by
    cases q : x.get? h.objs.size with
    | none => rfl
    | some o => exact absurd (Heap.lt_size (hx _ _ q)) (Nat.lt_irrefl _)
  refine codeAny_call_def (by have := hA.dp; unfold recursionLimit; omega) (O'.K _ _ hf) hdt O'.lim (codeRec_of O'.K hcd) hbody hbind hcell (locs hloc) (fun h₀ hn hk₀ => ?_) hco hgen hk
  have S : St b h.objs.size [] h₀ (fun x => binds.reverse.lookup x) (fun _ => none) vol := {
    ns := hn
    keep := fun x o e => hk₀ _ _ (hb _ _ e)
    cell := fun n c hc => by cases hc
    vols := fun p hp => hk₀ _ _ (hv p hp)
    sz := hsz
    apart := List.Pairwise.nil
    cL := fun n c hc => by cases hc
    vL := fun p hp q => by
      have q2 := hv p hp
      rw [q, fresh _ (Kp.refl _)] at q2; cases q2
    vc := fun p hp n c hc => by cases hc
    nd := hnd
    ck := List.nodup_nil }
  exact wpAny_mono (hq _ h₀ _ ⟨rfl, hk, rfl, hgl, hbi, rfl⟩ S hk₀ (hA.deeper _)) (fun _ _ x => x) fun _ _ x => x.elim

/-- entering a def of the top that has cells -/
theorem enterC {R : Result → Shared → Prop} {a : Addr} {fd : FuncData} {body : List Stmt} {vals : List Value} (binds : List (Str × Value)) (vol : List (Addr × Obj)) {b : Heap} {d : Nat}
    (O : Okay w b) (hA : AOk A (d + 1)) (hb : Kp b h) (hsz : b.objs.size ≤ h.objs.size) (hv : ∀ p ∈ vol, h.get? p.1 = some p.2) (hnd : (vol.map (·.1)).Nodup)
    (hf : (hd.heap_39 w.params).lookup a = some (fnObj w.params a)) (hdt : (fnObj w.params a).data = .func fd)
    (hcd : codeIn (hd.heap_39 w.params) fd.code fd.qualname = true) (hbody : fd.body = .stmts body) (hbind : bindArgs fd ⟨vals, []⟩ = pure binds) (hclo : fd.closure = [])
    (hkind : ∀ x ∈ binds, fd.scope.names.lookup x.1 = some .local ∨ (fd.scope.names.lookup x.1 = some .cell ∧ ((cellsFrom (h.objs.size + 1) fd.scope.names []).lookup x.1).isSome = true))
    (hck : ((cellsFrom 0 fd.scope.names []).map (·.1)).Nodup)
    (hco : fd.scope.isCoroutine = false) (hgen : fd.scope.isGenerator = false) (hk : fd.scope.kind = .function) (hgl : fd.globals = mainGlobals) (hbi : fd.builtins = builtinsNs)
    (hq : ∀ env h₀ tk, env.code = fd.code → env.qual = fd.qualname ++ ".<locals>." → EnvOk env fd.scope.names h.objs.size (cellsFrom (h.objs.size + 1) fd.scope.names []) →
      St b h.objs.size (cellsFrom (h.objs.size + 1) fd.scope.names []) h₀ (bindL (fun x => fd.scope.names.lookup x) binds fun _ => none) (bindC (fun x => fd.scope.names.lookup x) binds fun _ => none) vol →
      Kp h h₀ → AOk (A.deeper env) d →
      wpAny (model prog w) (A.deeper env) (execs body env) (fun f s' => R (.ok (.ret (match f with | .ret v => v | _ => .none))) s')
        (fun _ _ => False) (sh s h₀ tk)) :
    codeAny (model prog w) A (.call (.ref a) ⟨vals, []⟩) R (sh s h tk) := by
  have O' : Okay w h := O.keeps hb
  have fresh : ∀ (x : Heap) c, Kp x h → h.objs.size ≤ c → x.get? c = none := fun x c hx hc => by
    cases q : x.get? c with
    | none => rfl
    | some o => exact absurd (Heap.lt_size (hx _ _ q)) (Nat.not_lt.mpr hc)
  refine codeAny_call_cells (fd := fd) (by have := hA.dp; unfold recursionLimit; omega) (O'.K _ _ hf) hdt O'.lim (codeRec_of O'.K hcd) hbody hbind hclo hkind (fun s₁ X => ?_) hco hgen hk
  obtain ⟨h₀, tk, rfl, hk₀⟩ := X.done
  have hck' : ((cellsFrom (h.objs.size + 1) fd.scope.names []).map (·.1)).Nodup := cellsFrom_names fd.scope.names 0 (h.objs.size + 1) [] [] rfl ▸ hck
  have S : St b h.objs.size (cellsFrom (h.objs.size + 1) fd.scope.names []) h₀ (bindL (fun x => fd.scope.names.lookup x) binds fun _ => none) (bindC (fun x => fd.scope.names.lookup x) binds fun _ => none) vol := {
    ns := X.toInCall.ns
    keep := fun x o e => hk₀ _ _ (hb _ _ e)
    cell := fun n c hc => X.cell n c hc
    vols := fun p hp => hk₀ _ _ (hv p hp)
    sz := hsz
    apart := X.apart
    cL := fun n c hc => Nat.ne_of_gt (X.above n c hc)
    vL := fun p hp q => by
      have q2 := hv p hp
      rw [q, fresh _ _ (Kp.refl _) (Nat.le_refl _)] at q2; cases q2
    vc := fun p hp n c hc q => by
      have q2 := hv p hp
      rw [q, fresh _ _ (Kp.refl _) (Nat.le_of_lt (X.above n c hc))] at q2; cases q2
    nd := hnd
    ck := hck' }
  exact wpAny_mono (hq _ h₀ _ rfl rfl ⟨rfl, hk, rfl, hgl, hbi, rfl⟩ S hk₀ (hA.deeper _)) (fun _ _ x => x) fun _ _ x => x.elim

/-- entering a def that a frame has made -/
theorem enterN {R : Result → Shared → Prop} {name qual : Str} {params : Arguments} {body : List Stmt} {scope : Scope} {clo : List (Str × Addr)} {doc pm ctv : Value} {c' f : Addr} {args : Args} {d : Nat} (binds : List (Str × Value))
    (vol : List (Addr × Obj)) (O : Okay w b) (hA : AOk A (d + 1)) (hb : Kp b h) (hsz : b.objs.size ≤ h.objs.size) (hv : ∀ p ∈ vol, h.get? p.1 = some p.2) (hnd : (vol.map (·.1)).Nodup)
    (hfn : h.get? f = some (fnMade name qual params body scope clo doc pm c' ctv)) (hrec : h.CodeRec (.ref c') qual)
    (hbind : BindsTo (sh s h tk) (fnX name qual params body scope clo .none .none doc pm none (.ref c') ctv) args binds)
    (hcell : ∀ x ∈ scope.names, x.2 ≠ .cell) (hloc : (binds.all fun x => decide (scope.names.lookup x.1 = some .local)) = true)
    (hclo : ∀ n c, (n, c) ∈ clo → h.IsCell c (cm n)) (hap : clo.Pairwise fun x y => x.2 ≠ y.2) (hck : (clo.map (·.1)).Nodup) (hvc : ∀ p ∈ vol, ∀ n c, (n, c) ∈ clo → p.1 ≠ c)
    (hco : scope.isCoroutine = false) (hgen : scope.isGenerator = false) (hk : scope.kind = .function)
    (hq : ∀ env h₀ tk, EnvOk env scope.names h.objs.size clo → St b h.objs.size clo h₀ (fun x => binds.reverse.lookup x) cm vol → Kp h h₀ → AOk (A.deeper env) d →
      wpAny (model prog w) (A.deeper env) (execs body env) (fun f s' => R (.ok (.ret (match f with | .ret v => v | _ => .none))) s')
        (fun _ _ => False) (sh s h₀ tk)) :
    codeAny (model prog w) A (.call (.ref f) args) R (sh s h tk) := by
  have fresh : ∀ (x : Heap), Kp x h → x.get? h.objs.size = none := fun x hx => by
    cases q : x.get? h.objs.size with
    | none => rfl
    | some o => exact absurd (Heap.lt_size (hx _ _ q)) (Nat.lt_irrefl _)
  refine codeAny_call_def (fd := fnX name qual params body scope clo .none .none doc pm none (.ref c') ctv) (by have := hA.dp; unfold recursionLimit; omega) hfn rfl (O.keeps hb).lim hrec rfl hbind hcell (locs hloc) (fun h₀ hn hk₀ => ?_) hco hgen hk
  have S₀ : St b h.objs.size clo h₀ (fun x => binds.reverse.lookup x) cm vol := {
    ns := hn
    keep := fun x o e => hk₀ _ _ (hb _ _ e)
    cell := fun n c hc => (hclo n c (mem_of_lookup hc)).keeps hk₀
    vols := fun p hp => hk₀ _ _ (hv p hp)
    sz := hsz
    apart := hap
    cL := fun n c hc q => by
      obtain ⟨o, e, _⟩ := hclo n c hc
      rw [q, fresh _ (Kp.refl _)] at e; cases e
    vL := fun p hp q => by
      have q2 := hv p hp
      rw [q, fresh _ (Kp.refl _)] at q2; cases q2
    vc := hvc
    nd := hnd
    ck := hck }
  exact wpAny_mono (hq _ h₀ _ ⟨rfl, hk, rfl, rfl, rfl, rfl⟩ S₀ hk₀ (hA.deeper _)) (fun _ _ x => x) fun _ _ x => x.elim

/- the small rules, tokens hidden -/
theorem rC {i : Int} {kd : Nat} {pos : Pos} {Q : Value → Shared → Prop} (hq : ∀ t tk', Q (.int i t) (sh s h tk')) : wpAny (model prog w) A (eval (.Constant (.int i) kd pos) env) Q E (sh s h tk) := wpAny_Constant_int (hq _ _)
theorem rS {x : Str} {kd : Nat} {pos : Pos} {Q : Value → Shared → Prop} (hq : ∀ t tk', Q (.str x t) (sh s h tk')) : wpAny (model prog w) A (eval (.Constant (.str x) kd pos) env) Q E (sh s h tk) := Calls.Constant_str (hq _ _)
variable {a c : Int} {t u : Tok}
theorem rAdd {Q : Value → Shared → Prop} (hq : ∀ t tk', Q (.int (a + c) t) (sh s h tk')) : wpAny (model prog w) A (binaryOp .Add (.int a t) (.int c u)) Q E (sh s h tk) := PyProof.Rows.add_int (hq _ _)
theorem rSub {Q : Value → Shared → Prop} (hq : ∀ t tk', Q (.int (a - c) t) (sh s h tk')) : wpAny (model prog w) A (binaryOp .Sub (.int a t) (.int c u)) Q E (sh s h tk) := PyProof.Rows.sub_int (hq _ _)
theorem rMul {Q : Value → Shared → Prop} (hm : IntMulOk a c) (hq : ∀ t tk', Q (.int (a * c) t) (sh s h tk')) : wpAny (model prog w) A (binaryOp .Mult (.int a t) (.int c u)) Q E (sh s h tk) := PyProof.Rows.mul_int (hq _ _) hm
theorem rMod {Q : Value → Shared → Prop} (hb : c ≠ 0) (hq : ∀ t tk', Q (.int (a.fmod c) t) (sh s h tk')) : wpAny (model prog w) A (binaryOp .Mod (.int a t) (.int c u)) Q E (sh s h tk) := PyProof.Rows.mod_int hb (hq _ _)
theorem rDiv {Q : Value → Shared → Prop} (hb : c ≠ 0) (hp : Builtin.divisionGoesByPylong a c = false) (hq : ∀ t tk', Q (.int (a.fdiv c) t) (sh s h tk')) : wpAny (model prog w) A (binaryOp .FloorDiv (.int a t) (.int c u)) Q E (sh s h tk) := PyProof.Rows.floordiv_int hb (hq _ _) (.inl hp)
theorem rPow {Q : Value → Shared → Prop} (hn : 0 ≤ c) (hn2 : c ≤ 1000000) (ha : a.natAbs < 2 ^ 64) (hq : ∀ t tk', Q (.int (a ^ c.toNat) t) (sh s h tk')) : wpAny (model prog w) A (binaryOp .Pow (.int a t) (.int c u)) Q E (sh s h tk) := PyProof.Rows.pow_int_small hn hn2 ha (hq _ _)
theorem rShl {Q : Value → Shared → Prop} (hn : 0 ≤ c) (hsz : (Builtin.Int.intBits a : Int) + c ≤ 2 ^ 27) (hq : ∀ t tk', Q (.int (a * 2 ^ c.toNat) t) (sh s h tk')) : wpAny (model prog w) A (binaryOp .LShift (.int a t) (.int c u)) Q E (sh s h tk) := PyProof.Rows.lshift_int hn hsz (hq _ _)
theorem rShr {Q : Value → Shared → Prop} (hn : 0 ≤ c) (hq : ∀ t tk', Q (.int (a.fdiv (2 ^ c.toNat)) t) (sh s h tk')) : wpAny (model prog w) A (binaryOp .RShift (.int a t) (.int c u)) Q E (sh s h tk) := PyProof.Rows.rshift_int hn (hq _ _)
theorem rXor {Q : Value → Shared → Prop} (hq : ∀ t tk', Q (.int (Builtin.bitXor a c) t) (sh s h tk')) : wpAny (model prog w) A (binaryOp .BitXor (.int a t) (.int c u)) Q E (sh s h tk) := PyProof.Rows.xor_int (hq _ _)
theorem rEq {Q : Value → Shared → Prop} (hq : Q (.bool (a == c)) (sh s h tk)) : wpAny (model prog w) A (compareOp .Eq (.int a t) (.int c u)) Q E (sh s h tk) := PyProof.Rows.eq_int hq
theorem rNe {Q : Value → Shared → Prop} (hq : Q (.bool (a != c)) (sh s h tk)) : wpAny (model prog w) A (compareOp .NotEq (.int a t) (.int c u)) Q E (sh s h tk) := PyProof.Rows.ne_int hq
theorem rLt {Q : Value → Shared → Prop} (hq : Q (.bool (decide (a < c))) (sh s h tk)) : wpAny (model prog w) A (compareOp .Lt (.int a t) (.int c u)) Q E (sh s h tk) := PyProof.Rows.lt_int hq
theorem rBool {q : Bool} {Q : Bool → Shared → Prop} (hq : Q q (sh s h tk)) : wpAny (model prog w) A (truthy (.bool q)) Q E (sh s h tk) := wpAny_truthy_bool hq
/-- an item of a list -/
theorem rItem {value slice : Expr} {l : Addr} {items : Array Value} {i : Int} {u : Tok} {x : Value} {Q : Value → Shared → Prop} (hl : h.IsList l items) (h0 : 0 ≤ i) (hfit : i < 2 ^ 63) (hx : items[i.toNat]? = some x) (hq : Q x (sh s h tk))
    (hs : subscripted slice false (.ref l) (.int i u) = operate [.ref l, .int i u] (getItem (.ref l) (.int i u)) := by with_unfolding_all rfl) :
    wpAny (model prog w) A (subscriptTail value slice (.ref l) (.int i u)) Q E (sh s h tk) :=
  tail_any (s := sh s h tk) (Heap.IsList.typeIs (s := sh s h tk) hl) slot_list_getitem.lookup (wpAny_getItem_list hl h0 hfit hx hq) hs
theorem fnAt_keeps {q : Addr} {h h' : Heap} (X : FnAt q h) (k : Kp h h') : FnAt q h' := let ⟨oc, od, fd, sl, e⟩ := X; ⟨oc, od, fd, sl, k _ _ e⟩
theorem fnAnd {q : Addr} {P : Prop} (k : Kp g h) (S : St b L cl g m cm vol) (X : FnAt q b) (hp : P) : FnAt q (sh s h tk).heap ∧ P := ⟨fnAt_keeps (fnAt_keeps X S.keep) k, hp⟩
theorem fnAtK {a : Addr} (O : Okay w h) (e : fnIn (hd.heap_39 w.params) a = true) : FnAt a h := by
  unfold fnIn at e
  split at e
  · rename_i oc od fd sl ho
    exact ⟨_, _, _, _, O.K _ _ ho⟩
  · cases e
/-- a call of a def whose object is known -/
theorem rCallF {q : Addr} {e : Expr} {rest : List Expr} {pos : Pos} {Q : Value → Shared → Prop} (k : Kp g h) (S : St b L cl g m cm vol) (X : FnAt q b)
    (hq : wpAny (model prog w) A (spliced (backTo pos (starEach (e :: rest) env))) (fun vs s₁ => FnAt q s₁.heap ∧ wpAny (model prog w) A (call (.ref q) vs) Q E s₁) E (sh s h tk))
    (he : starEach (e :: rest) env = (false, eval e env) :: starEach rest env) (hplain : (backTo pos (starEach rest env)).any (·.1) = false) :
    wpAny (model prog w) A (callWith pos (.ref q) [] (backTo pos (starEach (e :: rest) env)) []) Q E (sh s h tk) :=
  callWith_F (first := []) (fnAt_keeps (fnAt_keeps X S.keep) k) hq he hplain
theorem rCallV {q : Addr} {oc : Value} {od : Option Addr} {fd : FuncData} {sl : Array (Option Value)} {e : Expr} {rest : List Expr} {pos : Pos} {Q : Value → Shared → Prop} (k : Kp g h) (S : St b L cl g m cm vol) (hm : (q, (⟨oc, od, .func fd, sl⟩ : Obj)) ∈ vol)
    (hq : wpAny (model prog w) A (spliced (backTo pos (starEach (e :: rest) env))) (fun vs s₁ => FnAt q s₁.heap ∧ wpAny (model prog w) A (call (.ref q) vs) Q E s₁) E (sh s h tk))
    (he : starEach (e :: rest) env = (false, eval e env) :: starEach rest env) (hplain : (backTo pos (starEach rest env)).any (·.1) = false) :
    wpAny (model prog w) A (callWith pos (.ref q) [] (backTo pos (starEach (e :: rest) env)) []) Q E (sh s h tk) :=
  callWith_F (first := []) ⟨_, _, _, _, k _ _ (S.vols _ hm)⟩ hq he hplain
theorem fnAndV {q : Addr} {oc : Value} {od : Option Addr} {fd : FuncData} {sl : Array (Option Value)} {P : Prop} (k : Kp g h) (S : St b L cl g m cm vol) (hm : (q, (⟨oc, od, .func fd, sl⟩ : Obj)) ∈ vol) (hp : P) : FnAt q (sh s h tk).heap ∧ P :=
  ⟨⟨_, _, _, _, k _ _ (S.vols _ hm)⟩, hp⟩
/-- a call of a def of the top -/
theorem rCallG {q : Addr} {e : Expr} {rest : List Expr} {pos : Pos} {Q : Value → Shared → Prop} (k : Kp g h) (S : St b L cl g m cm vol) (O : Okay w b) (hf : fnIn (hd.heap_39 w.params) q = true)
    (hq : wpAny (model prog w) A (spliced (backTo pos (starEach (e :: rest) env))) (fun vs s₁ => FnAt q s₁.heap ∧ wpAny (model prog w) A (call (.ref q) vs) Q E s₁) E (sh s h tk))
    (he : starEach (e :: rest) env = (false, eval e env) :: starEach rest env) (hplain : (backTo pos (starEach rest env)).any (·.1) = false) :
    wpAny (model prog w) A (callWith pos (.ref q) [] (backTo pos (starEach (e :: rest) env)) []) Q E (sh s h tk) :=
  callWith_F (first := []) (fnAt_keeps (fnAtK (O.keeps S.keep) hf) k) hq he hplain
theorem fnAndG {q : Addr} {P : Prop} (k : Kp g h) (S : St b L cl g m cm vol) (O : Okay w b) (hf : fnIn (hd.heap_39 w.params) q = true) (hp : P) : FnAt q (sh s h tk).heap ∧ P := ⟨fnAt_keeps (fnAtK (O.keeps S.keep) hf) k, hp⟩
/-- a call of a built-in -/
theorem rCallB {id : String} {e : Expr} {rest : List Expr} {pos : Pos} {Q : Value → Shared → Prop}
    (hq : wpAny (model prog w) A (spliced (backTo pos (starEach (e :: rest) env))) (fun vs s₁ => wpAny (model prog w) A (call (.builtin id) vs) Q E s₁) E (sh s h tk))
    (he : starEach (e :: rest) env = (false, eval e env) :: starEach rest env) (hplain : (backTo pos (starEach rest env)).any (·.1) = false) :
    wpAny (model prog w) A (callWith pos (.builtin id) [] (backTo pos (starEach (e :: rest) env)) []) Q E (sh s h tk) := PyProof.Rows.callWith_builtin1 hq he hplain
theorem rCallT {T : String} {e : Expr} {rest : List Expr} {pos : Pos} {Q : Value → Shared → Prop}
    (hq : wpAny (model prog w) A (spliced (backTo pos (starEach (e :: rest) env))) (fun vs s₁ => wpAny (model prog w) A (call (.type T) vs) Q E s₁) E (sh s h tk))
    (he : starEach (e :: rest) env = (false, eval e env) :: starEach rest env) (hplain : (backTo pos (starEach rest env)).any (·.1) = false) :
    wpAny (model prog w) A (callWith pos (.type T) [] (backTo pos (starEach (e :: rest) env)) []) Q E (sh s h tk) := PyProof.Rows.callWith_type1 hq he hplain
/-- len -/
theorem rLenS {x : Str} {t : Tok} {Q : Value → Shared → Prop} (hfit : x.length < 2 ^ 60) (hq : ∀ t tk', Q (.int x.length t) (sh s h tk')) : wpAny (model prog w) A (call (.builtin "len") [.str x t]) Q E (sh s h tk) := PyProof.Rows.len_str (by omega) (hq _ _)
theorem rLenL {l : Addr} {items : Array Value} {Q : Value → Shared → Prop} (hl : h.IsList l items) (hfit : items.size < 2 ^ 60) (hq : ∀ t tk', Q (.int items.size t) (sh s h tk')) : wpAny (model prog w) A (call (.builtin "len") [.ref l]) Q E (sh s h tk) :=
  PyProof.Rows.len_list hl (by omega) (hq _ _)
theorem rTruL {l : Addr} {items : Array Value} {Q : Bool → Shared → Prop} (hl : h.IsList l items) (hfit : items.size < 2 ^ 60) (hq : ∀ tk', Q (!items.isEmpty) (sh s h tk')) : wpAny (model prog w) A (truthy (.ref l)) Q E (sh s h tk) :=
  wpAny_truthy_list hl (by omega) (hq _)
theorem rTruI {Q : Bool → Shared → Prop} (hq : Q (a != 0) (sh s h tk)) : wpAny (model prog w) A (truthy (.int a t)) Q E (sh s h tk) := PyProof.Rows.truthy_int hq
theorem rExpr {e : Expr} {pos : Pos} {Q : Flow → Shared → Prop} (V : EnvOk env names L cl) (hq : wpAny (model prog w) A (eval e env) (fun _ => Q .next) E (sh s h tk)) (hs : swapsWith e none pos.line env = pure false) :
    wpAny (model prog w) A (exec (.Expr e pos) env) Q E (sh s h tk) := wpAny_Expr_any hq (by unfold interactive; rw [V.kind]; rfl) hs
theorem rBitLen {Q : Value → Shared → Prop} (hq : ∀ t tk', Q (.int (Builtin.Int.intBits a) t) (sh s h tk')) : wpAny (model prog w) A (call (.builtin "int.bit_length") [.int a t]) Q E (sh s h tk) := PyProof.Rows.call_int_bit_length (hq _ _)
end
theorem Okay.hide {w : World} {b h : Heap} {P : Addr} (O : Okay w b) (k : Kp b h) (hP : b.get? P = none) : Okay w (h.hide P) :=
  O.keeps fun a o e => (Heap.hide_ne h fun q => by rw [q, hP] at e; cases e).trans (k a o e)
theorem kp_hide (h : Heap) (P : Addr) : Kp (h.hide P) h := fun _ _ e => Heap.of_hide e
end

section
open PySem PySem.W PyProof.Rows PySem.Calls
set_option maxRecDepth 100000
theorem boot_chr' : bootBuiltins "chr" = some (.builtin "chr") := by decide +kernel
theorem gb_len (P : Params) : nsIn (hd.heap_39 P) mainGlobals "len" = some none := by with_unfolding_all rfl
theorem gb_range (P : Params) : nsIn (hd.heap_39 P) mainGlobals "range" = some none := by with_unfolding_all rfl
theorem gb_sum (P : Params) : nsIn (hd.heap_39 P) mainGlobals "sum" = some none := by with_unfolding_all rfl
theorem gb_isinstance (P : Params) : nsIn (hd.heap_39 P) mainGlobals "isinstance" = some none := by with_unfolding_all rfl
theorem gb_int (P : Params) : nsIn (hd.heap_39 P) mainGlobals "int" = some none := by with_unfolding_all rfl
theorem gb_chr (P : Params) : nsIn (hd.heap_39 P) mainGlobals "chr" = some none := by with_unfolding_all rfl
theorem gg_junk (P : Params) : nsIn (hd.heap_39 P) mainGlobals "IS_CHARACTER_JUNK" = some (some (.ref 29)) := by with_unfolding_all rfl
theorem gg_i2d (P : Params) : nsIn (hd.heap_39 P) mainGlobals "_int2digits" = some (some (.ref 36)) := by with_unfolding_all rfl
theorem gg_d2i (P : Params) : nsIn (hd.heap_39 P) mainGlobals "_digits2int" = some (some (.ref 43)) := by with_unfolding_all rfl
theorem gg_p257 (P : Params) : nsIn (hd.heap_39 P) mainGlobals "parse257" = some (some (.ref 75)) := by with_unfolding_all rfl
theorem gg_fmt (P : Params) : nsIn (hd.heap_39 P) mainGlobals "Formatter" = some (some (.ref 149)) := by with_unfolding_all rfl
theorem gg_parts (P : Params) : nsIn (hd.heap_39 P) mainGlobals "_law_parts" = some (some (.ref 160)) := by with_unfolding_all rfl
theorem gg_border (P : Params) : nsIn (hd.heap_39 P) mainGlobals "_law_border" = some (some (.ref 165)) := by with_unfolding_all rfl
theorem gg_between (P : Params) : nsIn (hd.heap_39 P) mainGlobals "_law_between" = some (some (.ref 170)) := by with_unfolding_all rfl
theorem gg_lacks (P : Params) : nsIn (hd.heap_39 P) mainGlobals "_law_lacks" = some (some (.ref 177)) := by with_unfolding_all rfl
end

section
open PySem PySem.W PyProof.Rows PySem.Calls

/-- the number that figures ds make at width n, the first the lowest -/
noncomputable def sv (n : Nat) : List Nat → Nat
  | [] => 0
  | d :: r => d + 2 ^ n * sv n r

theorem sv_append (n : Nat) : ∀ a b : List Nat, sv n (a ++ b) = sv n a + 2 ^ (n * a.length) * sv n b
  | [], b => by simp [sv]
  | d :: r, b => by
    rw [List.cons_append, sv, sv_append n r b, sv, List.length_cons, Nat.mul_add n r.length 1, Nat.mul_one, Nat.pow_add, Nat.mul_add, Nat.add_assoc]
    congr 2
    rw [Nat.mul_comm (2 ^ (n * r.length)) (2 ^ n), Nat.mul_assoc]

theorem sv_lt (n : Nat) : ∀ l : List Nat, (∀ d ∈ l, d < 2 ^ n) → sv n l < 2 ^ (n * l.length)
  | [], _ => by simp [sv]
  | d :: r, h => by
    have h1 := h d (.head _)
    have h2 := sv_lt n r fun x hx => h x (.tail _ hx)
    rw [sv, List.length_cons, Nat.mul_add n r.length 1, Nat.mul_one, Nat.pow_add, Nat.mul_comm (2 ^ (n * r.length))]
    have h3 : 2 ^ n * (sv n r + 1) ≤ 2 ^ n * 2 ^ (n * r.length) := Nat.mul_le_mul_left _ h2
    rw [Nat.mul_add, Nat.mul_one] at h3
    omega

theorem sv_ge (n : Nat) (l : List Nat) (d : Nat) (hd : d ≠ 0) : 2 ^ (n * l.length) ≤ sv n (l ++ [d]) := by
  rw [sv_append]
  have : sv n [d] = d := by simp [sv]
  rw [this]
  have h1 : 2 ^ (n * l.length) * 1 ≤ 2 ^ (n * l.length) * d := Nat.mul_le_mul_left _ (by omega)
  omega

/-- the figures from L up to R -/
noncomputable def seg (ds : List Nat) (L R : Nat) : List Nat := (ds.drop L).take (R - L)
theorem seg_length {ds : List Nat} {L R : Nat} (h : R ≤ ds.length) : (seg ds L R).length = R - L := by
  unfold seg; rw [List.length_take, List.length_drop]; exact Nat.min_eq_left (Nat.sub_le_sub_right h L)
theorem seg_split {ds : List Nat} {L M R : Nat} (h1 : L ≤ M) (h2 : M ≤ R) : seg ds L R = seg ds L M ++ seg ds M R := by
  unfold seg
  have e : R - L = (M - L) + (R - M) := by rw [Nat.add_comm, Nat.sub_add_sub_cancel h2 h1]
  rw [e, List.take_add, List.drop_drop, Nat.add_sub_of_le h1]
theorem seg_one {ds : List Nat} {L : Nat} (h : L < ds.length) : seg ds L (L + 1) = [ds[L]] := by
  unfold seg
  rw [Nat.add_sub_cancel_left, List.drop_eq_getElem_cons h]; rfl
theorem seg_mem {ds : List Nat} {L R : Nat} {d : Nat} (h : d ∈ seg ds L R) : d ∈ ds := List.mem_of_mem_drop (List.mem_of_mem_take h)
theorem seg_all (ds : List Nat) : seg ds 0 ds.length = ds := by unfold seg; simp
theorem sv_split {n : Nat} {ds : List Nat} {L M R : Nat} (h1 : L ≤ M) (h2 : M ≤ R) (h3 : R ≤ ds.length) : sv n (seg ds L R) = sv n (seg ds L M) + 2 ^ (n * (M - L)) * sv n (seg ds M R) := by
  rw [seg_split h1 h2, sv_append, seg_length (Nat.le_trans h2 h3)]
theorem sv_seg_lt {n : Nat} {ds : List Nat} {L R : Nat} (h3 : R ≤ ds.length) (hd : ∀ d ∈ ds, d < 2 ^ n) : sv n (seg ds L R) < 2 ^ (n * (R - L)) := by
  have := sv_lt n (seg ds L R) fun d h => hd d (seg_mem h)
  rwa [seg_length h3] at this

theorem and_high (x k : Nat) : x &&& (x / 2 ^ k * 2 ^ k) = x / 2 ^ k * 2 ^ k := by
  rw [← Nat.shiftRight_eq_div_pow, ← Nat.shiftLeft_eq]
  apply Nat.eq_of_testBit_eq
  intro i
  rw [Nat.testBit_and, Nat.testBit_shiftLeft, Nat.testBit_shiftRight]
  by_cases h : k ≤ i
  · have e : k + (i - k) = i := by omega
    simp [h, e]
  · simp [h]
theorem bitXor_low (x k : Nat) : Builtin.bitXor (x : Int) (((x / 2 ^ k : Nat) : Int) * 2 ^ k) = ((x % 2 ^ k : Nat) : Int) := by
  have e : ((x / 2 ^ k : Nat) : Int) * 2 ^ k = ((x / 2 ^ k * 2 ^ k : Nat) : Int) := by push_cast; rfl
  rw [e, bitXor_and]
  have ha : Builtin.bitAnd (x : Int) ((x / 2 ^ k * 2 ^ k : Nat) : Int) = ((x / 2 ^ k * 2 ^ k : Nat) : Int) := by
    unfold Builtin.bitAnd
    rw [decide_eq_true (Int.natCast_nonneg x), decide_eq_true (Int.natCast_nonneg _)]
    show ((x &&& (x / 2 ^ k * 2 ^ k) : Nat) : Int) = _
    rw [and_high]
  rw [ha]
  have h1 := Nat.div_add_mod x (2 ^ k)
  have h2 : 2 ^ k * (x / 2 ^ k) = x / 2 ^ k * 2 ^ k := Nat.mul_comm _ _
  omega
theorem rsh_nat (x k : Nat) : ((x : Nat) : Int).fdiv (2 ^ k) = ((x / 2 ^ k : Nat) : Int) := by
  have e : (2 ^ k : Int) = ((2 ^ k : Nat) : Int) := by push_cast; rfl
  rw [e, ← Int.ofNat_fdiv]
theorem intBits_lt {x k : Nat} (h : x < 2 ^ k) : Builtin.Int.intBits (x : Int) ≤ k := by
  unfold Builtin.Int.intBits
  split
  · omega
  · rename_i h0
    have hx : x ≠ 0 := fun e => h0 (by rw [e]; rfl)
    have := (Nat.log2_lt hx).mpr h
    show (x : Int).natAbs.log2 + 1 ≤ k
    rw [Int.natAbs_natCast]; omega
theorem intBits_ge {x k : Nat} (h : 2 ^ k ≤ x) : k + 1 ≤ Builtin.Int.intBits (x : Int) := by
  unfold Builtin.Int.intBits
  have hp := Nat.two_pow_pos k
  have hx : x ≠ 0 := by omega
  split
  · rename_i h0
    exact absurd (by simpa using h0) hx
  · have := (Nat.le_log2 hx).mpr h
    show k + 1 ≤ (x : Int).natAbs.log2 + 1
    rw [Int.natAbs_natCast]; omega
/-- how many figures -/
theorem count_figs {n : Nat} {ds : List Nat} (hn : 0 < n) (hlt : ∀ d ∈ ds, d < 2 ^ n) (hlast : ∃ r x, ds = r ++ [x] ∧ x ≠ 0) :
    ((Builtin.Int.intBits ((sv n ds : Nat) : Int) : Int) + (n : Int) - 1).fdiv (n : Int) = ((ds.length : Nat) : Int) := by
  obtain ⟨r, x, rfl, hx⟩ := hlast
  have h1 := intBits_lt (sv_lt n _ hlt)
  have h2 := intBits_ge (sv_ge n r x hx)
  generalize Builtin.Int.intBits ((sv n (r ++ [x]) : Nat) : Int) = B at h1 h2
  rw [List.length_append, List.length_singleton] at h1 ⊢
  have e : (B : Int) + (n : Int) - 1 = ((B + n - 1 : Nat) : Int) := by omega
  rw [e, ← Int.ofNat_fdiv]
  congr 1
  rw [Nat.mul_add, Nat.mul_one] at h1
  have h3 : n * (r.length + 1) = n * r.length + n := by rw [Nat.mul_add, Nat.mul_one]
  apply Nat.div_eq_of_lt_le
  · rw [Nat.mul_comm, h3]; omega
  · have h4 : (r.length + 1 + 1) * n = n * r.length + n + n := by rw [Nat.add_mul, Nat.add_mul, Nat.one_mul, Nat.mul_comm]
    omega
theorem sh_fit {B a c : Nat} (h : B ≤ a) (ha : a ≤ 200 * 100) (hc : c ≤ 100 * 200) : (B : Int) + (c : Int) ≤ 2 ^ 27 := by omega
/-- the middle of a stretch -/
theorem mid_facts {N l r k n M : Nat} (hn : n ≤ 200) (hlr : l < r) (h1 : l + 1 ≠ r) (hN : r - l ≤ N + 1) (hr : r ≤ k) (hk : k ≤ 100) (hM : (l + r) / 2 = M) :
    l < M ∧ M < r ∧ M - l ≤ N ∧ r - M ≤ N ∧ M ≤ k ∧ M - l < 2 ^ 7 ∧ (M : Int) - (l : Int) = ((M - l : Nat) : Int) ∧ ((M : Int) - (l : Int)) * (n : Int) = (((M - l) * n : Nat) : Int) ∧ (M - l) * n ≤ 100 * 200 ∧ n * (r - M) ≤ 200 * 100 := by
  have hN' : r ≤ N + 1 + l := Nat.le_add_of_sub_le hN
  have hM1 : l < M := by clear hN hN' hn hr hk; omega
  have hM2 : M < r := by clear hN hN' hn hr hk; omega
  have hr' : r ≤ 100 := Nat.le_trans hr hk
  have e4 : (M : Int) - (l : Int) = ((M - l : Nat) : Int) := (Int.natCast_sub (Nat.le_of_lt hM1)).symm
  have h7 : M - l ≤ 100 := Nat.le_trans (Nat.sub_le _ _) (Nat.le_trans (Nat.le_of_lt hM2) hr')
  exact ⟨hM1, hM2, Nat.sub_le_of_le_add (by clear hM hN h1 hn hr hk h7 e4; omega), Nat.sub_le_of_le_add (by clear hM hN h1 hn hr hk h7 e4; omega), Nat.le_trans (Nat.le_of_lt hM2) hr, Nat.lt_of_le_of_lt h7 (by decide), e4,
    by rw [e4, Int.natCast_mul], Nat.mul_le_mul h7 hn, Nat.mul_le_mul hn (Nat.le_trans (Nat.sub_le _ _) hr')⟩
end

section
open PySem PySem.W PyProof.Rows PySem.Calls
set_option maxRecDepth 100000
section
variable {prog : Program} {w : World} {A : Around} {E : Value → Shared → Prop} {s : Shared} {h : Heap} {tk : Nat} {env : Env} {names : List (Str × NameKind)} {L : Addr} {cl : List (Str × Addr)}
  {b g : Heap} {m cm : Str → Option Value} {vol : List (Addr × Obj)} {d : Nat}

theorem closureFor_cells {scope : Scope} {env env' : Env} (h : env.cells = env'.cells) : closureFor scope env = closureFor scope env' := by
  unfold closureFor cellOf
  rw [h]
theorem EnvOk.closure (V : EnvOk env names L cl) (scope : Scope) : closureFor scope env = closureFor scope { (default : Env) with cells := cl } := closureFor_cells V.cells

/-- the table of a def's code: empty, or bearing the one made -/
noncomputable def TabOk (pos : Pos) (q : Str) (h : Heap) (ps : Array Value) : Prop :=
  ps = #[] ∨ ∃ c', ps = #[rawInt pos.line, rawInt pos.col, .ref c'] ∧ h.CodeRec (.ref c') q
theorem TabOk.keeps {pos : Pos} {q : Str} {h h' : Heap} {ps : Array Value} (x : TabOk pos q h ps) (k : Kp h h') : TabOk pos q h' ps :=
  x.imp id fun ⟨c', e, r⟩ => ⟨c', e, r.keeps k⟩
theorem TabOk.noCode {pos : Pos} {q : Str} {h : Heap} {ps : Array Value} (x : TabOk pos q h ps) {q' : Str} {t : Tok} : ps[1]? ≠ some (.str q' t) := by
  rcases x with rfl | ⟨c', rfl, _⟩
  · simp
  · simp [rawInt]
theorem TabOk.hide {pos : Pos} {q : Str} {h : Heap} {ps : Array Value} {P : Addr} (x : TabOk pos q h ps) (hP : h.get? P = some (tabObj ps)) : TabOk pos q (h.hide P) ps := by
  refine x.imp id fun ⟨c', e, c, o, vs, t, e1, e2, e3, e4⟩ => ⟨c', e, c, o, vs, t, e1, (Heap.hide_ne h fun q' => ?_).trans e2, e3, e4⟩
  rw [q', hP] at e2
  cases e2
  cases e3
  exact x.noCode e4

theorem builtinsAt_of {h : Heap} {p : Program} {loose : List Str} {mean : ExcName → Option Value} {mg mb : Str → Option Value} {P : Addr} {b : Heap} (T : Top p loose mean mg mb b) (k : Kp b h) (hP : b.get? P = none) : h.BuiltinsAt mg P := by
  obtain ⟨bm, ob, b1, b2, b3, b4, b5, b6⟩ := T.bmain
  refine ⟨bm, ob, b1, b2, fun q => ?_, fun q => ?_, k _ _ b3, b4, b5, b6⟩
  · obtain ⟨o, es, ep, e, hd, _⟩ := T.g
    rw [q, e] at b3; cases b3; rw [hd] at b6; cases b6
  · rw [q, hP] at b3; cases b3

/-- a def within a frame -/
theorem nestDef {name : Str} {params : Arguments} {body : List Stmt} {scope : Scope} {pos : Pos} {P c cc : Addr} {ps : Array Value} {pre post : List (Addr × Obj)} {q0 : Str} {clos : List (Str × Addr)} {Q : Flow → Shared → Prop}
    (V : EnvOk env names L cl) (k : Kp g h) (S : St b L cl g m cm (pre ++ (P, tabObj ps) :: post)) (O : Okay w b) (hcode : env.code = .ref c) (hqual : env.qual = q0) (C : CodeHd b c P)
    (tab : TabOk pos (q0 ++ name) b ps) (hclos : closureFor scope { (default : Env) with cells := cl } = pure clos) (hd0 : params.defaults = []) (hk0 : params.kw_defaults = []) (ha : annTrees params none env = [])
    (hkd : names.lookup name = some .cell) (hc : cl.lookup name = some cc) (hLc : L ≤ cc) (hgp : mainGlobals ≠ P) (hbP : b.get? P = none)
    (hQ : ∀ f c' ctv doc pm h' tk ps' own, St b L cl h' m (fun y => if y = name then some (.ref f) else cm y) ((f, fnMade name (q0 ++ name) params body scope clos doc pm c' ctv) :: (own ++ (pre ++ (P, tabObj ps') :: post))) →
      TabOk pos (q0 ++ name) h' ps' → (∀ h, Kp b h → (∀ p ∈ own, h.get? p.1 = some p.2) → h.CodeRec (.ref c') (q0 ++ name)) → (∀ a o, a ≠ P → a ≠ cc → h.get? a = some o → h'.get? a = some o) → Q .next (sh s h' tk)) :
    wpAny (model prog w) A (exec (.FunctionDef name params body [] none [] scope none name pos) env) Q E (sh s h tk) := by
  obtain ⟨p, loose, mean, mg, mb, T⟩ := O.T
  have S' := S.step k
  have hmP : (P, tabObj ps) ∈ pre ++ (P, tabObj ps) :: post := List.mem_append_right _ (.head _)
  have hP : h.get? P = some (tabObj ps) := S'.vols _ hmP
  have hq : qualnameIn env name name = q0 ++ name := by
    unfold qualnameIn
    rw [V.kindOf, hkd, hqual]; rfl
  have hcc : (name, cc) ∈ cl := mem_of_lookup hc
  have hPc : P ≠ cc := S.vc _ hmP name cc hcc
  refine nestDef_K hd0 hk0 ha ?_
  rw [hq]
  have store : ∀ (f : Addr) (h₁ : Heap) (tk : Nat) (vol : List (Addr × Obj)), St b L cl h₁ m cm vol → (∀ h₂, St b L cl h₂ m (fun y => if y = name then some (.ref f) else cm y) vol → Heap.SameBut cc h₁ h₂ → Q .next (sh s h₂ tk)) →
      wpAny (model prog w) A (storeName env name (.ref f)) (fun _ s'' => Q .next s'') E (sh s h₁ tk) := fun f h₁ tk vol S₁ hq =>
    wpAny_storeName_cell V.kind ((V.kindOf _).trans hkd) (V.cells ▸ hc) (S₁.cell name cc hc) fun h₂ hv hs => hq h₂ (S₁.setC hc (Heap.get?_none_of_le (Nat.le_trans S₁.sz hLc)) hv hs) hs
  have recK : ∀ {h₁ h₂ : Heap} {c' : Addr} {qq : Str}, h₁.IsCell cc (cm name) → Heap.SameBut cc h₁ h₂ → h₁.CodeRec (.ref c') qq → h₂.CodeRec (.ref c') qq := by
    rintro h₁ h₂ c' qq ⟨oc, ec, dc⟩ hs ⟨c₂, o, vs, t, e, ho, hd, hv⟩
    refine ⟨c₂, o, vs, t, e, (hs.2 c₂ (fun q => ?_)).trans ho, hd, hv⟩
    rw [q, ec] at ho; cases ho; rw [hd] at dc; cases dc
  rcases tab with rfl | ⟨c', rfl, hrec⟩
  · refine makeFunction_K (mg := mg) (by rw [V.closure]; exact hclos) V.glob ((T.g.keeps S.keep).keeps k) hcode (C.keeps S'.keep) hP trivial rfl hgp (builtinsAt_of T S'.keep hbP) fun c' ctv doc h' tk hx hge hlt hrec htb => ?_
    have S₁ : St b L cl h' m cm (pre ++ (P, tabObj (#[] ++ #[rawInt pos.line, rawInt pos.col, .ref c'])) :: post) := S'.stepB hbP hx htb
    obtain ⟨c₂, oc, vs, t, e2, hoc, hdc, hvc⟩ := id hrec
    cases e2
    have hge' : h.objs.size ≤ c' := hge
    have S₁' := S₁.more hoc (Nat.ne_of_gt (Nat.lt_of_lt_of_le (show L < h.objs.size from S'.ns.lt) hge')) (fun n c hc => Nat.ne_of_gt (Nat.lt_of_lt_of_le (S'.clt hc) hge'))
      (fun p hp => by
        have hb : p.1 < h.objs.size := by
          rcases List.mem_append.mp hp with hp | hp
          · exact S'.lt (List.mem_append_left _ hp)
          · rcases List.mem_cons.mp hp with rfl | hp
            · exact Heap.lt_size hP
            · exact S'.lt (List.mem_append_right _ (.tail _ hp))
        exact Nat.ne_of_lt (Nat.lt_of_lt_of_le hb hge'))
    have S₂ := S₁'.addV (h' := h'.push (fnMade name (q0 ++ name) params body scope clos doc ((mg "__name__").getD .none) c' ctv)) (Kp.push _ _) (Heap.get?_none_of_le (Nat.le_refl _)) (Heap.get?_push_size _ rfl)
    refine store _ _ _ _ S₂ fun h₂ S₃ hs => ?_
    have hr₁ : (h'.push (fnMade name (q0 ++ name) params body scope clos doc ((mg "__name__").getD .none) c' ctv)).CodeRec (.ref c') (q0 ++ name) := hrec.push _
    have hr₂ := recK (S₂.cell name cc hc) hs hr₁
    exact hQ _ c' ctv doc _ h₂ _ _ [(c', oc)] S₃ (.inr ⟨c', rfl, hr₂⟩) (fun h _ hp => ⟨c', oc, vs, t, rfl, hp (c', oc) (.head _), hdc, hvc⟩) fun a o h1 h2 e => (hs.2 a h2).trans (Heap.get?_push_of_some _ (hx a o h1 e))
  · refine makeFunction_hit (mg := mg) (cv := .ref c') (by rw [V.closure]; exact hclos) V.glob ((T.g.keeps S.keep).keeps k) hcode (C.keeps S'.keep) hP (by simp [TriplesOk, rawInt]) (by simp [codeAmong, rawInt]) (builtinsAt_of T S'.keep hbP) fun ctv doc h' tk hx hsz => ?_
    have S₁ := S'.step hx
    have S₂ := S₁.addV (h' := h'.push (fnMade name (q0 ++ name) params body scope clos doc ((mg "__name__").getD .none) c' ctv)) (Kp.push _ _) (Heap.get?_none_of_le (Nat.le_refl _)) (Heap.get?_push_size _ rfl)
    refine store _ _ _ _ S₂ fun h₂ S₃ hs => ?_
    exact hQ _ c' ctv doc _ h₂ _ _ [] S₃ (.inr ⟨c', rfl, hrec.keeps S₃.keep⟩) (fun h kb _ => hrec.keeps kb) fun a o h1 h2 e => (hs.2 a h2).trans (Heap.get?_push_of_some _ (hx a o e))
end
end

local macro_rules | `(tactic| walk_at "st") => `(tactic| first
  | with_reducible refine wpAny_execs_nil ?_
  | with_reducible refine wpAny_execs_cons ?_
  | with_reducible refine wpAny_If ?_
  | with_reducible refine wpAny_Return_some ?_
  | ((with_reducible refine' wpAny_Assign_Name ?_ ?h); (case h => rfl))
  | ((with_reducible refine' wpAny_Assign_Subscript ?_ ?h); (case h => rfl))
  | ((with_reducible refine' rExpr ?V ?_ ?h); (case V => assumption); (case h => rfl))
  | with_reducible refine wpAny_Return_none ?_
  | ((with_reducible refine' wpAny_isTrue_Compare1 ?_ ?h); (case h => with_unfolding_all rfl))
  | ((with_reducible refine' wpAny_Compare1 ?_ ?h); (case h => with_unfolding_all rfl))
  | ((with_reducible refine' PyProof.Rows.isTrue_plain ?_ ?h); (case h => rfl))
  | with_reducible refine wpAny_BinOp ?_
  | with_reducible refine wpAny_IfExp ?_
  | (with_reducible refine rC ?_; intro _ _)
  | (with_reducible refine rS ?_; intro _ _)
  | ((with_reducible refine' nL ?V ?k ?S ?a ?b ?_ ?z); (case V => assumption); (case k => assumption); (case S => assumption); (case a => rfl); (case b => first | rfl | assumption); (case z => decide))
  | ((with_reducible refine' nC ?V ?k ?S ?a ?c ?b ?_ ?z); (case V => assumption); (case k => assumption); (case S => assumption); (case a => rfl); (case c => rfl); (case b => first | assumption | rfl); (case z => decide))
  | ((with_reducible refine' nF ?V ?k ?S ?a ?c ?b ?_ ?z ?y); (case V => assumption); (case k => assumption); (case S => assumption); (case a => rfl); (case c => rfl); (case b => first | assumption | rfl); (case z => decide); (case y => decide))
  | ((with_reducible refine' stL ?V ?k ?S ?a ?_); (case V => assumption); (case k => assumption); (case S => assumption); (case a => rfl); intro h' S'; have k' := Kp.refl h')
  | ((with_reducible refine' stC ?V ?k ?S ?a ?c ?l ?_); (case V => assumption); (case k => assumption); (case S => assumption); (case a => rfl); (case c => rfl); (case l => walk_at "st_le"); intro h' S'; have k' := Kp.refl h')
  | ((with_reducible refine' nB ?V ?k ?S ?O ?a ?e ?bo ?_ ?n1 ?n2); (case V => assumption); (case k => assumption); (case S => assumption); (case O => assumption); (case a => rfl); (case e => walk_at "st_glob"); (case bo => walk_at "st_boot"); (case n1 => decide); (case n2 => decide))
  | ((with_reducible refine' nG ?V ?k ?S ?O ?a ?e ?_ ?z); (case V => assumption); (case k => assumption); (case S => assumption); (case O => assumption); (case a => rfl); (case e => walk_at "st_glob"); (case z => decide))
  | with_reducible refine PyProof.Rows.Subscript_ ?_
  | (with_reducible refine rAdd ?_; intro _ _)
  | (with_reducible refine rSub ?_; intro _ _)
  | with_reducible refine rEq ?_
  | with_reducible refine rNe ?_
  | with_reducible refine rLt ?_
  | with_reducible refine rBool ?_
  | with_reducible refine itT ?_
  | with_reducible refine itF ?_
  | with_reducible refine wpAny_Call_NameR ?_
  | ((with_reducible refine' PyProof.Rows.MethodCall_ ?_ ?h); (case h => rfl))
  | with_reducible refine PyProof.Rows.getMethod_int_bit_length ?_
  | with_reducible refine PyProof.Rows.callWith_method0 ?_
  | ((with_reducible refine' PyProof.Rows.callWith_method1 ?_ ?h ?h2); (case h => rfl); (case h2 => rfl))
  | (with_reducible refine rBitLen ?_; intro _ _)
  | with_reducible refine PyProof.Rows.List_ ?_
  | ((with_reducible refine' PyProof.Rows.args_nil ?_))
  | ((with_reducible refine' PyProof.Rows.args_cons ?_ ?h); (case h => rfl))
  | ((with_reducible refine' rCallB ?_ ?h ?h2); (case h => rfl); (case h2 => rfl))
  | ((with_reducible refine' rCallT ?_ ?h ?h2); (case h => rfl); (case h2 => rfl))
  | ((with_reducible refine' rCallV ?k ?S ?m ?_ ?h ?h2); (case k => assumption); (case S => assumption); (case m => assumption); (case h => rfl); (case h2 => rfl))
  | ((with_reducible refine' fnAndV ?k ?S ?m ?_); (case k => assumption); (case S => assumption); (case m => assumption))
  | ((with_reducible refine' rCallF ?k ?S ?X ?_ ?h ?h2); (case k => assumption); (case S => assumption); (case X => assumption); (case h => rfl); (case h2 => rfl))
  | ((with_reducible refine' fnAnd ?k ?S ?X ?_); (case k => assumption); (case S => assumption); (case X => assumption))
  | with_reducible refine wpAny_Slice ?_
  | with_reducible refine wpAny_evalPart_none ?_
  | with_reducible refine wpAny_evalPart_some ?_
  | refine wpAny_execs_cons ?_
  )
local macro_rules | `(tactic| walk_at "st_le") => `(tactic| first | exact Nat.le_refl _ | exact Nat.le_add_right _ _ | (refine Nat.le_succ_of_le ?_; walk_at "st_le"))
local macro_rules | `(tactic| walk_at "st_boot") => `(tactic| first | exact boot_len | exact PyProof.Rows.boot_range | exact PyProof.Rows.boot_sum | exact PyProof.Rows.boot_isinstance | exact PyProof.Rows.boot_int | exact boot_chr')
local macro_rules | `(tactic| walk_at "st_glob") => `(tactic| first | exact gb_len _ | exact gb_range _ | exact gb_sum _ | exact gb_isinstance _ | exact gb_int _ | exact gb_chr _ | exact gg_junk _ | exact gg_i2d _ | exact gg_d2i _ | exact gg_p257 _ | exact gg_fmt _ | exact gg_parts _ | exact gg_border _ | exact gg_between _ | exact gg_lacks _)

section
open PySem PySem.W PyProof.Rows PySem.Calls
set_option maxRecDepth 100000

noncomputable def defBody : Stmt → List Stmt
  | .FunctionDef _ _ body .. => body
  | _ => []
noncomputable def defScope : Stmt → Scope
  | .FunctionDef _ _ _ _ _ _ sc .. => sc
  | _ => default
noncomputable def defParams : Stmt → Arguments
  | .FunctionDef _ p .. => p
  | _ => default
noncomputable def defPos : Stmt → Pos
  | .FunctionDef _ _ _ _ _ _ _ _ _ pos => pos
  | _ => default
noncomputable def topDef (i : Nat) : Stmt := PySem.Challenge.pw_wv0025_01.main.body.getD i default
/-- the def within _digits2int -/
noncomputable def d2iDef : Stmt := (defBody (topDef 5)).getD 0 default

noncomputable abbrev d2iNames : List (Str × NameKind) := [(Str.ofString "L", .local), (Str.ofString "R", .local), (Str.ofString "mid", .local), (Str.ofString "shift", .local), (Str.ofString "digits", .free), (Str.ofString "inner", .free), (Str.ofString "n", .free)]

section
variable {prog : Program} {w : World} {A : Around} {E : Value → Shared → Prop} {s : Shared} {h : Heap} {tk : Nat} {env : Env} {names : List (Str × NameKind)} {L : Addr} {cl clo : List (Str × Addr)}
  {b g : Heap} {m cm : Str → Option Value} {vol : List (Addr × Obj)} {d : Nat}

theorem intsAre_at {vs : List Value} {ns : List Int} (h : IntsAre vs ns) {i : Nat} (hi : i < ns.length) : ∃ t, vs[i]? = some (.int ns[i] t) := h.get i ns[i] (by simp [hi])

noncomputable abbrev qD2I : Str := Str.ofString "_digits2int" ++ ".<locals>." ++ Str.ofString "inner"
structure D2I (clo : List (Str × Addr)) (cm : Str → Option Value) (f a : Addr) (n : Nat) (ds : List Nat) (h : Heap) : Prop where
  fn : ∃ doc pm c' ctv, h.get? f = some (fnMade (Str.ofString "inner") qD2I (defParams d2iDef) (defBody d2iDef) (defScope d2iDef) clo doc pm c' ctv) ∧ h.CodeRec (.ref c') qD2I
  list : ∃ vs, h.IsList a vs.toArray ∧ IntsAre vs (ds.map Int.ofNat)
  cells : ∀ n c, (n, c) ∈ clo → h.IsCell c (cm n)
  apart : clo.Pairwise fun x y => x.2 ≠ y.2
  digits : cm (Str.ofString "digits") = some (.ref a)
  inner : cm (Str.ofString "inner") = some (.ref f)
  width : ∃ t, cm (Str.ofString "n") = some (.int n t)
theorem D2I.keeps {cm : Str → Option Value} {f a : Addr} {n : Nat} {ds : List Nat} {h h' : Heap} (X : D2I clo cm f a n ds h) (k : Kp h h') : D2I clo cm f a n ds h' :=
  ⟨let ⟨doc, pm, c', ctv, e, r⟩ := X.fn; ⟨doc, pm, c', ctv, k _ _ e, r.keeps k⟩, let ⟨vs, l, i⟩ := X.list; ⟨vs, l.at fun _ e => k _ _ e, i⟩, fun n c hc => (X.cells n c hc).keeps k, X.apart, X.digits, X.inner, X.width⟩

theorem d2i_inner {f a cd ci cn : Addr} {n : Nat} {ds : List Nat} (hclo : clo = [(Str.ofString "n", cn), (Str.ofString "inner", ci), (Str.ofString "digits", cd)]) (hn : n ≤ 200) (hds : ds.length ≤ 100) (hlt : ∀ d ∈ ds, d < 2 ^ n) :
    ∀ (N l r : Nat), r - l ≤ N → l < r → r ≤ ds.length → ∀ {A : Around} {h : Heap} {tk : Nat} {t u : Tok} {Q : Value → Shared → Prop} {E : Value → Shared → Prop},
      Okay w h → D2I clo cm f a n ds h → AOk A (N + 1) →
      (∀ h' tk t', Kp h h' → Q (.int (sv n (seg ds l r) : Nat) t') (sh s h' tk)) →
      wpAny (model prog w) A (call (.ref f) [.int l t, .int r u]) Q E (sh s h tk) := by
  subst hclo
  intro N
  induction N with
  | zero => intro l r h1 h2; omega
  | succ N ih =>
    intro l r hN hlr hr A h tk t u Q E O X hA hQ
    obtain ⟨doc, pm, c', ctv, hfn, hrec⟩ := X.fn
    refine wpAny_call (enterN [(Str.ofString "L", .int l t), (Str.ofString "R", .int r u)] [] O hA (Kp.refl _) (Nat.le_refl _) (by simp) (by simp) hfn hrec (BindsTo.of_eq rfl) (by decide) (by rfl) X.cells X.apart (by simp; decide) (by simp) rfl rfl rfl fun env h₀ tk V S k₀ hA' => ?_)
    have k1 : Kp h₀ h₀ := Kp.refl _
    have hF : FnAt f h := ⟨_, _, _, _, hfn⟩
    replace V : EnvOk env d2iNames h.objs.size _ := V
    have hdg := X.digits
    have hin := X.inner
    obtain ⟨tn, hw⟩ := X.width
    repeat walk_at "st"
    refine itB (fun e => ?_) (fun e => ?_)
    · have h1 : l + 1 = r := by have := beq_iff_eq.mp e; omega
      obtain ⟨vs, hl, hi⟩ := X.list
      replace hl := hl.at (h' := h₀) fun _ e => S.keep _ _ e
      obtain ⟨tv, hv⟩ := intsAre_at hi (i := l) (by simp; omega)
      repeat walk_at "st"
      have hv' : vs.toArray[((l : Nat) : Int).toNat]? = some (.int ((ds[l]'(by omega) : Nat) : Int) tv) := by simpa using hv
      refine rItem hl (Int.natCast_nonneg _) (by omega) hv' ?_
      have e : sv n (seg ds l r) = ds[l] := by
        subst h1
        rw [seg_one (by omega)]; simp [sv]
      have hq := fun tk' => hQ h₀ tk' tv k₀
      rw [e] at hq
      exact hq _
    · have h1 : l + 1 ≠ r := by have := beq_eq_false_iff_ne.mp e; omega
      repeat walk_at "st"
      have e2 : ((l : Int) + (r : Int)).fdiv (2 ^ (1 : Int).toNat) = (((l + r) / 2 : Nat) : Int) := by
        have := rsh_nat (l + r) 1
        rw [show ((1 : Int).toNat) = 1 from rfl]
        simpa using this
      refine rShr (by decide) fun _ _ => ?_
      rw [e2]
      generalize hM : (l + r) / 2 = M
      obtain ⟨hM1, hM2, hMN, hrN, hMk, hM7, e4, e3, hM3, hM4⟩ := mid_facts hn hlr h1 hN hr hds hM
      repeat walk_at "st"
      refine rMul (IntMulOk.of_left ?_) fun _ _ => ?_
      · rw [e4]
        refine intBits_lt (Nat.lt_of_lt_of_le hM7 (Nat.pow_le_pow_right (by decide) (by decide)))
      rw [e3]
      repeat walk_at "st"
      (rename St _ _ _ _ _ _ _ => S9)
      refine ih M r hrN hM2 hr (O.keeps S9.keep) (X.keeps S9.keep) hA' fun h1 tk1 t1 k2 => ?_
      repeat walk_at "st"
      have hb1 := sv_seg_lt (n := n) (ds := ds) (L := M) (R := r) hr hlt
      refine rShl (Int.natCast_nonneg _) ?_ fun _ _ => ?_
      · have := intBits_lt hb1
        exact sh_fit this hM4 hM3
      repeat walk_at "st"
      refine ih l M hMN hM1 hMk (O.keeps (Kp.trans S9.keep k2)) (X.keeps (Kp.trans S9.keep k2)) hA' fun h3 tk3 t3 k3 => ?_
      repeat walk_at "st"
      have e5 : ((sv n (seg ds M r) : Nat) : Int) * 2 ^ (((M - l) * n : Nat) : Int).toNat + ((sv n (seg ds l M) : Nat) : Int) = ((sv n (seg ds l r) : Nat) : Int) := by
        rw [sv_split (n := n) (ds := ds) (L := l) (M := M) (R := r) (Nat.le_of_lt hM1) (Nat.le_of_lt hM2) hr, Int.toNat_natCast, Nat.mul_comm n (M - l)]
        push_cast
        rw [Int.mul_comm, Int.add_comm]
      rw [e5]
      exact hQ _ _ _ (Kp.trans S9.keep (Kp.trans k2 k3))
end
end

section
open PySem PySem.W PyProof.Rows PySem.Calls
set_option maxRecDepth 100000
section
variable {prog : Program} {w : World} {A : Around} {E : Value → Shared → Prop} {s : Shared} {h : Heap} {tk : Nat} {b : Heap} {d : Nat}

theorem d2i_call {a : Addr} {vs : List Value} {n : Nat} {ds : List Nat} {t : Tok} {ps : Array Value} {Q : Value → Shared → Prop} (hn : n ≤ 200) (hds : ds.length ≤ 100) (hd0 : 0 < ds.length) (hlt : ∀ d ∈ ds, d < 2 ^ n)
    (O : Okay w b) (kb : Kp b h) (hbP : b.get? 38 = none) (hA : AOk A 120) (hP : h.get? 38 = some (tabObj ps)) (tab : TabOk ⟨26, 4, 31, 55⟩ qD2I h ps)
    (hl : h.IsList a vs.toArray) (hi : IntsAre vs (ds.map Int.ofNat))
    (hQ : ∀ h' tk' t' ps', Heap.ExtBut 38 h h' → h'.get? 38 = some (tabObj ps') → TabOk ⟨26, 4, 31, 55⟩ qD2I h' ps' → Q (.int (sv n ds : Nat) t') (sh s h' tk')) :
    wpAny (model prog w) A (call (.ref 43) [.ref a, .int n t]) Q E (sh s h tk) := by
  have O' := O.hide kb hbP
  refine wpAny_call (enterC [(Str.ofString "digits", .ref a), (Str.ofString "n", .int n t)] [(38, tabObj ps)] O' hA (kp_hide h 38) (Nat.le_of_eq (Heap.hide_size h 38)) (by simpa using hP) (by simp)
    (by with_unfolding_all rfl) (by with_unfolding_all rfl) (by with_unfolding_all rfl) rfl rfl rfl (kinds_of (by kinds_ok)) (by decide) rfl rfl rfl rfl rfl fun env h₀ tk hcode hqual V S k₀ hA' => ?_)
  have k1 : Kp h₀ h₀ := Kp.refl _
  generalize hLdef : h.objs.size = L at V S
  replace V : EnvOk env [(Str.ofString "digits", .cell), (Str.ofString "n", .cell), (Str.ofString "inner", .cell), (Str.ofString "len", .globalImplicit)] L [(Str.ofString "inner", L + 1 + 1 + 1), (Str.ofString "n", L + 1 + 1), (Str.ofString "digits", L + 1)] := V
  replace S : St (h.hide 38) L [(Str.ofString "inner", L + 1 + 1 + 1), (Str.ofString "n", L + 1 + 1), (Str.ofString "digits", L + 1)] h₀ (fun _ => none) (fun y => if y = Str.ofString "n" then some (.int n t) else if y = Str.ofString "digits" then some (.ref a) else none) ([] ++ (38, tabObj ps) :: []) := S
  refine wpAny_execs_cons ?_
  refine nestDef V k1 S O' hcode hqual (codeHd_of_K O'.K (by with_unfolding_all rfl)) (tab.hide hP) rfl rfl rfl rfl rfl rfl (by walk_at "st_le") (by decide) (Heap.hide_self h 38) fun f c' ctv doc pm h1 tk1 ps' own S1 tab1 hrec1 hk1 => ?_
  have hl1 : (h.hide 38).IsList a vs.toArray := hl.at fun o e => (Heap.hide_ne h fun q => by
    obtain ⟨oo, e1, e2, _⟩ := hl
    rw [q, hP] at e1; cases e1; cases e2).trans e
  have hl2 : h1.IsList a vs.toArray := hl1.at fun _ e => S1.keep _ _ e
  have hvl : vs.length = ds.length := by rw [hi.length]; simp
  have hsz : vs.toArray.size = ds.length := by simpa using hvl
  have hmf := List.Mem.head (a := (f, fnMade (Str.ofString "inner") qD2I (defParams d2iDef) (defBody d2iDef) (defScope d2iDef) [(Str.ofString "n", L + 1 + 1), (Str.ofString "inner", L + 1 + 1 + 1), (Str.ofString "digits", L + 1)] doc pm c' ctv)) (own ++ ([] ++ (38, tabObj ps') :: []))
  have X : D2I [(Str.ofString "n", L + 1 + 1), (Str.ofString "inner", L + 1 + 1 + 1), (Str.ofString "digits", L + 1)] (fun y => if y = Str.ofString "inner" then some (.ref f) else if y = Str.ofString "n" then some (.int n t) else if y = Str.ofString "digits" then some (.ref a) else none) f a n ds h1 :=
    ⟨⟨doc, pm, c', ctv, S1.vols _ hmf, hrec1 h1 S1.keep fun p hp => S1.vols p (List.mem_cons_of_mem _ (List.mem_append_left _ hp))⟩, ⟨vs, hl2, hi⟩,
      fun m c hc => S1.cell m c (by
        simp only [List.mem_cons, Prod.mk.injEq, List.not_mem_nil, or_false] at hc
        rcases hc with ⟨rfl, rfl⟩ | ⟨rfl, rfl⟩ | ⟨rfl, rfl⟩ <;> rfl), by simp; omega, rfl, rfl, ⟨t, rfl⟩⟩
  have k2 : Kp h1 h1 := Kp.refl _
  repeat walk_at "st"
  refine rTruL hl2 (by omega) fun tk3 => ?_
  rw [show (!vs.toArray.isEmpty) = true from by simp; intro e; rw [e] at hvl; simp at hvl; omega]
  repeat walk_at "st"
  refine rLenL hl2 (by omega) fun t4 tk4 => ?_
  repeat walk_at "st"
  rw [hsz]
  refine d2i_inner rfl hn hds hlt ds.length 0 ds.length (Nat.le_refl _) hd0 (Nat.le_refl _) (O'.keeps S1.keep) X (hA'.less (by omega)) fun h5 tk5 t5 k5 => ?_
  rw [seg_all]
  exact hQ h5 tk5 t5 ps' (fun x o hx e => k5 _ _ (S1.keep _ _ ((Heap.hide_ne h hx).trans e))) (k5 _ _ (S1.vols (38, tabObj ps') (List.mem_cons_of_mem _ (List.mem_append_right _ (.head _))))) (tab1.keeps k5)
end
end

section
open PySem PySem.W PyProof.Rows PySem.Calls
set_option maxRecDepth 100000
/-- the def within _int2digits -/
noncomputable def i2dDef : Stmt := (defBody (topDef 4)).getD 1 default
noncomputable abbrev i2dNames : List (Str × NameKind) := [(Str.ofString "x", .local), (Str.ofString "L", .local), (Str.ofString "R", .local), (Str.ofString "mid", .local), (Str.ofString "shift", .local), (Str.ofString "upper", .local), (Str.ofString "lower", .local), (Str.ofString "a_digits", .free), (Str.ofString "inner", .free), (Str.ofString "n", .free)]
noncomputable abbrev qI2D : Str := Str.ofString "_int2digits" ++ ".<locals>." ++ Str.ofString "inner"

section
variable {prog : Program} {w : World} {A : Around} {E : Value → Shared → Prop} {s : Shared} {h : Heap} {tk : Nat} {b : Heap} {d : Nat} {clo : List (Str × Addr)}

structure I2D (clo : List (Str × Addr)) (cm : Str → Option Value) (f D : Addr) (n : Nat) (h : Heap) : Prop where
  fn : ∃ doc pm c' ctv, h.get? f = some (fnMade (Str.ofString "inner") qI2D (defParams i2dDef) (defBody i2dDef) (defScope i2dDef) clo doc pm c' ctv) ∧ h.CodeRec (.ref c') qI2D
  cells : ∀ n c, (n, c) ∈ clo → h.IsCell c (cm n)
  apart : clo.Pairwise fun x y => x.2 ≠ y.2
  digits : cm (Str.ofString "a_digits") = some (.ref D)
  inner : cm (Str.ofString "inner") = some (.ref f)
  width : ∃ t, cm (Str.ofString "n") = some (.int n t)
theorem I2D.ext {cm : Str → Option Value} {f D : Addr} {n : Nat} {h h' : Heap} {items : Array Value} (X : I2D clo cm f D n h) (hl : h.IsList D items) (k : Heap.ExtBut D h h') : I2D clo cm f D n h' := by
  obtain ⟨oD, eD, cD, nD, dD⟩ := hl
  refine ⟨?_, fun m c hc => ?_, X.apart, X.digits, X.inner, X.width⟩
  · obtain ⟨doc, pm, c', ctv, e, c2, oc, vs, t, e2, e3, e4, e5⟩ := X.fn
    refine ⟨doc, pm, c', ctv, k _ _ (fun q => ?_) e, c2, oc, vs, t, e2, k _ _ (fun q => ?_) e3, e4, e5⟩
    · rw [q, eD] at e; cases e; simp at cD
    · rw [q, eD] at e3; cases e3; rw [dD] at e4; cases e4
  · obtain ⟨o, e, dc⟩ := X.cells m c hc
    refine ⟨o, k _ _ (fun q => ?_) e, dc⟩
    rw [q, eD] at e; cases e; rw [dD] at dc; cases dc
/-- the figures from l up to r laid -/
structure Laid (ds : List Nat) (l r : Nat) (items items' : Array Value) : Prop where
  size : items'.size = items.size
  out : ∀ i, i < l ∨ r ≤ i → items'[i]? = items[i]?
  fig : ∀ i, l ≤ i → (hr : i < r) → (hi : i < ds.length) → ∃ t, items'[i]? = some (.int ((ds[i] : Nat) : Int) t)
theorem Laid.join {ds : List Nat} {l m r : Nat} {i1 i2 i3 : Array Value} (hl : l ≤ m) (hm : m ≤ r) (X : Laid ds l m i1 i2) (Y : Laid ds m r i2 i3) : Laid ds l r i1 i3 where
  size := Y.size.trans X.size
  out := fun i hi => (Y.out i (by omega)).trans (X.out i (by omega))
  fig := fun i h1 h2 h3 => by
    by_cases q : i < m
    · rw [Y.out i (.inl q)]; exact X.fig i h1 q h3
    · exact Y.fig i (by omega) h2 h3

theorem i2d_inner {cm : Str → Option Value} {f D ca ci cn : Addr} {n : Nat} {ds : List Nat} (hclo : clo = [(Str.ofString "n", cn), (Str.ofString "inner", ci), (Str.ofString "a_digits", ca)]) (hn : n ≤ 200) (hds : ds.length ≤ 100) (hlt : ∀ d ∈ ds, d < 2 ^ n)
    {b : Heap} (O : Okay w b) (hbD : b.get? D = none) :
    ∀ (N l r : Nat), r - l ≤ N → l < r → r ≤ ds.length → ∀ {A : Around} {h : Heap} {tk : Nat} {t u v : Tok} {items : Array Value} {Q : Value → Shared → Prop} {E : Value → Shared → Prop},
      Kp b h → I2D clo cm f D n h → h.IsList D items → items.size = ds.length → AOk A (N + 1) →
      (∀ h' tk items', Heap.ExtBut D h h' → h'.IsList D items' → Laid ds l r items items' → Q .none (sh s h' tk)) →
      wpAny (model prog w) A (call (.ref f) [.int (sv n (seg ds l r) : Nat) v, .int l t, .int r u]) Q E (sh s h tk) := by
  subst hclo
  intro N
  induction N with
  | zero => intro l r h1 h2; omega
  | succ N ih =>
    intro l r hN hlr hr A h tk t u v items Q E kb X hl hsz hA hQ
    obtain ⟨doc, pm, c', ctv, hfn, hrec⟩ := X.fn
    obtain ⟨oD, eD, cD, nD, dD⟩ := id hl
    have O' := O.hide kb hbD
    refine wpAny_call (enterN [(Str.ofString "x", .int (sv n (seg ds l r) : Nat) v), (Str.ofString "L", .int l t), (Str.ofString "R", .int r u)] ([] ++ (D, oD) :: []) O' hA (kp_hide h D) (Nat.le_of_eq (Heap.hide_size h D)) (by simpa using eD) (by simp) hfn hrec (BindsTo.of_eq rfl) (by decide) (by rfl) X.cells X.apart (by simp; decide)
      (fun p hp n c hc q => by
        obtain ⟨o, e, dc⟩ := X.cells n c hc
        have hp' : p = (D, oD) := by simpa using hp
        subst hp'
        rw [← q, eD] at e; cases e; rw [dD] at dc; cases dc) rfl rfl rfl fun env h₀ tk V S k₀ hA' => ?_)
    have k1 : Kp h₀ h₀ := Kp.refl _
    have hF : FnAt f (h.hide D) := ⟨_, _, _, _, (Heap.hide_ne h fun q => by rw [q, eD] at hfn; cases hfn; simp at cD).trans hfn⟩
    replace V : EnvOk env i2dNames h.objs.size _ := V
    have hdg := X.digits
    have hin := X.inner
    obtain ⟨tn, hw⟩ := X.width
    repeat walk_at "st"
    refine itB (fun e => ?_) (fun e => ?_)
    · have h1 : l + 1 = r := by have := beq_iff_eq.mp e; omega
      repeat walk_at "st"
      have hl0 : h₀.IsList D items := hl.at fun _ e => k₀ _ _ e
      refine wpAny_setItem_list hl0 (Int.natCast_nonneg _) (by omega) (by omega) fun h' hl' hs' => ?_
      repeat walk_at "st"
      refine hQ h' _ _ (fun x o hx e => (hs'.2 x hx).trans (S.keep _ _ ((Heap.hide_ne h hx).trans e))) hl' ⟨by simp, fun i hi => ?_, fun i h2 h3 h4 => ?_⟩
      · rw [Int.toNat_natCast, Array.getElem?_setIfInBounds_ne (by omega)]
      · have e2 : i = l := by omega
        subst e2
        subst h1
        rw [Int.toNat_natCast, Array.getElem?_setIfInBounds_self_of_lt (by omega), seg_one h4]
        exact ⟨v, by simp [sv]⟩
    · have h1 : l + 1 ≠ r := by have := beq_eq_false_iff_ne.mp e; omega
      repeat walk_at "st"
      have e2 : ((l : Int) + (r : Int)).fdiv (2 ^ (1 : Int).toNat) = (((l + r) / 2 : Nat) : Int) := by
        have := rsh_nat (l + r) 1
        rw [show ((1 : Int).toNat) = 1 from rfl]
        simpa using this
      refine rShr (by decide) fun _ _ => ?_
      rw [e2]
      generalize hM : (l + r) / 2 = M
      obtain ⟨hM1, hM2, hMN, hrN, hMk, hM7, e4, e3, hM3, hM4⟩ := mid_facts hn hlr h1 hN hr hds hM
      repeat walk_at "st"
      refine rMul (IntMulOk.of_left ?_) fun _ _ => ?_
      · rw [e4]
        refine intBits_lt (Nat.lt_of_lt_of_le hM7 (Nat.pow_le_pow_right (by decide) (by decide)))
      rw [e3]
      repeat walk_at "st"
      have hsp := sv_split (n := n) (ds := ds) (L := l) (M := M) (R := r) (Nat.le_of_lt hM1) (Nat.le_of_lt hM2) hr
      have hlo := sv_seg_lt (n := n) (ds := ds) (L := l) (R := M) hMk hlt
      have hb1 := sv_seg_lt (n := n) (ds := ds) (L := M) (R := r) hr hlt
      rw [Nat.mul_comm n (M - l)] at hsp hlo
      have hdiv : sv n (seg ds l r) / 2 ^ ((M - l) * n) = sv n (seg ds M r) := by
        rw [hsp, Nat.add_mul_div_left _ _ (Nat.two_pow_pos _), Nat.div_eq_of_lt hlo, Nat.zero_add]
      have hmod : sv n (seg ds l r) % 2 ^ ((M - l) * n) = sv n (seg ds l M) := by
        rw [hsp, Nat.add_mul_mod_self_left, Nat.mod_eq_of_lt hlo]
      refine rShr (Int.natCast_nonneg _) fun _ _ => ?_
      rw [Int.toNat_natCast, rsh_nat, hdiv]
      repeat walk_at "st"
      refine rShl (Int.natCast_nonneg _) ?_ fun _ _ => ?_
      · have := intBits_lt hb1
        exact sh_fit this hM4 hM3
      rw [Int.toNat_natCast]
      refine rXor fun _ _ => ?_
      rw [← hdiv, bitXor_low, hmod]
      repeat walk_at "st"
      (rename St _ _ _ _ _ _ _ => S9)
      have ext9 : ∀ {h9 : Heap}, Kp (h.hide D) h9 → Heap.ExtBut D h h9 := fun k9 x o hx e => k9 _ _ ((Heap.hide_ne h hx).trans e)
      have kbh : Kp b (h.hide D) := fun x o e => (Heap.hide_ne h fun q => by rw [q, hbD] at e; cases e).trans (kb _ _ e)
      have hm9 : (D, oD) ∈ ([] ++ (D, oD) :: [] : List (Addr × Obj)) := .head _
      refine ih l M hMN hM1 hMk (Kp.trans kbh S9.keep) (X.ext hl (ext9 S9.keep)) ⟨oD, S9.vols _ hm9, cD, nD, dD⟩ hsz hA' fun h2 tk2 items2 e2 hl2 la2 => ?_
      obtain ⟨o2, eo2, c2, n2, d2⟩ := id hl2
      have S10 := S9.stepB (Heap.hide_self h D) e2 eo2
      have k10 : Kp h2 h2 := Kp.refl _
      repeat walk_at "st"
      refine ih M r hrN hM2 hr (Kp.trans kbh S10.keep) (X.ext hl (ext9 S10.keep)) hl2 (la2.size.trans hsz) hA' fun h3 tk3 items3 e3 hl3 la3 => ?_
      repeat walk_at "st"
      exact hQ _ _ _ ((ext9 S10.keep).trans e3) hl3 (la2.join (Nat.le_of_lt hM1) (Nat.le_of_lt hM2) la3)
end
end

section
open PySem PySem.W PyProof.Rows PySem.Calls
set_option maxRecDepth 100000
section
variable {prog : Program} {w : World} {A : Around} {E : Value → Shared → Prop} {s : Shared} {h : Heap} {tk : Nat} {b : Heap} {d : Nat} {env : Env}

noncomputable abbrev lst (items : Array Value) (n : Nat) : Obj := { cls := .type "list", data := .seq items n }
theorem lst_is {h : Heap} {a : Addr} {items : Array Value} {n : Nat} (e : h.get? a = some (lst items n)) : h.IsList a items := ⟨_, e, rfl, n, rfl⟩
theorem get_size (h : Heap) : h.get? h.objs.size = none := Heap.get?_none_of_le (Nat.le_refl _)
theorem rNewList {vs : List Value} {Q : Value → Shared → Prop} (hsz : vs.length ≤ 1000) (hq : ∀ D h', Kp h h' → h.get? D = none → h'.get? D = some (lst vs.toArray 0) → Q (.ref D) (sh s h' tk)) :
    wpAny (model prog w) A (newList vs) Q E (sh s h tk) := wpAny_newList (hq _ _ (Kp.push _ _) (get_size h) (Heap.get?_push_size _ rfl)) (Nat.le_trans hsz (by rw [sizeLine_eq]; decide))
/-- a list times a number -/
theorem rMulL {l : Addr} {x : Int} {u : Tok} {vs : List Value} {Q : Value → Shared → Prop} (hl : h.IsList l vs.toArray) (h0 : 0 ≤ x) (hx : x ≤ 1000) (hsz : vs.length ≤ 1000)
    (hq : ∀ D h', Kp h h' → h.get? D = none → h'.get? D = some (lst (List.replicate x.toNat vs).flatten.toArray 0) → Q (.ref D) (sh s h' tk)) :
    wpAny (model prog w) A (binaryOp .Mult (.ref l) (.int x u)) Q E (sh s h tk) := by
  obtain ⟨⟨cls, dd, data, sl⟩, ho, hcl, k, hd⟩ := id hl
  simp only at hcl hd
  subst hcl hd
  have hsz' : vs.toArray.size * x.toNat ≤ 2 ^ 24 := by
    have h1 : vs.length * x.toNat ≤ 1000 * 1000 := Nat.mul_le_mul hsz (by omega)
    rw [List.size_toArray]; omega
  refine wpAny_binaryOp_repeat_ref (T := "list") (U := "int") (by decide) ⟨_, ho, rfl⟩ (fun s' => typeIs_int s' x u) noFill_list_mul F.fills_int_mul F.slot_int_rmul repeat_list F.slot_int_index.lookup
    (call_meets F.slot_int_rmul (typeIs_int _ x u) F.entry_int_rmul (F.args_int_rmul_2 _ _) (lm_int_rmul_list_any x u l vs.toArray k dd sl)
      ⟨ho, rfl, ⟨_, ho, rfl⟩, call_meets F.slot_list_mul ⟨_, ho, rfl⟩ F.entry_list_mul (F.args_list_mul_2 _ _)
        (lm_list_mul_any l vs.toArray k dd sl x u (by simp [Builtin.List.listFitsIndex]; omega) (by omega) (by simp [Builtin.List.listTooLong, sizeLine]; omega)) ⟨ho, ?_⟩⟩)
  rw [listMul_foldl_if]
  exact hq _ _ (Kp.push _ _) (get_size h) (Heap.get?_push_size _ rfl)
end
end

section
open PySem PySem.W PyProof.Rows PySem.Calls
set_option maxRecDepth 100000
section
variable {prog : Program} {w : World} {A : Around} {E : Value → Shared → Prop} {s : Shared} {h : Heap} {tk : Nat} {b : Heap} {d : Nat} {env : Env}

theorem TabOk.extBut {pos : Pos} {q : Str} {h h' : Heap} {ps : Array Value} {D : Addr} {items : Array Value} (x : TabOk pos q h ps) (k : Heap.ExtBut D h h') (hD : h.IsList D items) : TabOk pos q h' ps := by
  obtain ⟨o, e, c, n, dd⟩ := hD
  exact x.imp id fun ⟨c', e', r⟩ => ⟨c', e', r.keepsBut (fun b o' hb => k b o' hb) e fun vs q => by rw [dd] at q; cases q⟩
theorem ints_of {ds : List Nat} {items items' : Array Value} (X : Laid ds 0 ds.length items items') (hs : items.size = ds.length) : IntsAre items'.toList (ds.map Int.ofNat) := by
  have h1 : items'.toList.length = ds.length := by have := X.size; simpa [hs] using this
  have h2 : ∀ i (hi : i < ds.length), ∃ t, items'.toList[i]? = some (.int ((ds[i] : Nat) : Int) t) := fun i hi => by
    obtain ⟨t, e⟩ := X.fig i (Nat.zero_le _) hi hi
    exact ⟨t, by simpa using e⟩
  generalize items'.toList = vs at h1 h2
  clear X hs
  induction ds generalizing vs with
  | nil => cases vs with
    | nil => exact .nil
    | cons a r => simp at h1
  | cons d r ih => cases vs with
    | nil => simp at h1
    | cons a vs =>
      obtain ⟨t, e⟩ := h2 0 (by simp)
      simp at e
      subst e
      refine .cons _ _ (ih vs (by simpa using h1) fun i hi => ?_)
      obtain ⟨t, e⟩ := h2 (i + 1) (by simpa using hi)
      exact ⟨t, by simpa using e⟩
theorem i2d_call {n : Nat} {ds : List Nat} {t u : Tok} {ps : Array Value} {Q : Value → Shared → Prop} (hn0 : 0 < n) (hn : n ≤ 200) (hds : ds.length ≤ 100) (hd0 : 0 < ds.length) (hlt : ∀ d ∈ ds, d < 2 ^ n) (hlast : ∃ r x, ds = r ++ [x] ∧ x ≠ 0)
    (O : Okay w b) (kb : Kp b h) (hbP : b.get? 31 = none) (hA : AOk A 120) (hP : h.get? 31 = some (tabObj ps)) (tab : TabOk ⟨11, 4, 20, 28⟩ qI2D h ps)
    (hQ : ∀ D vs h' tk' ps', Heap.ExtBut 31 h h' → h'.get? 31 = some (tabObj ps') → TabOk ⟨11, 4, 20, 28⟩ qI2D h' ps' → h.get? D = none → h'.IsList D vs.toArray → IntsAre vs (ds.map Int.ofNat) → Q (.ref D) (sh s h' tk')) :
    wpAny (model prog w) A (call (.ref 36) [.int (sv n ds : Nat) u, .int n t]) Q E (sh s h tk) := by
  have O' := O.hide kb hbP
  refine wpAny_call (enterC [(Str.ofString "a", .int (sv n ds : Nat) u), (Str.ofString "n", .int n t)] [(31, tabObj ps)] O' hA (kp_hide h 31) (Nat.le_of_eq (Heap.hide_size h 31)) (by simpa using hP) (by simp)
    (by with_unfolding_all rfl) (by with_unfolding_all rfl) (by with_unfolding_all rfl) rfl rfl rfl (kinds_of (by kinds_ok)) (by decide) rfl rfl rfl rfl rfl fun env h₀ tk hcode hqual V S k₀ hA' => ?_)
  have k1 : Kp h₀ h₀ := Kp.refl _
  generalize hLdef : h.objs.size = L at V S
  replace V : EnvOk env [(Str.ofString "a", .local), (Str.ofString "n", .cell), (Str.ofString "a_digits", .cell), (Str.ofString "inner", .cell), (Str.ofString "len", .globalImplicit)] L [(Str.ofString "inner", L + 1 + 1 + 1), (Str.ofString "a_digits", L + 1 + 1), (Str.ofString "n", L + 1)] := V
  replace S : St (h.hide 31) L [(Str.ofString "inner", L + 1 + 1 + 1), (Str.ofString "a_digits", L + 1 + 1), (Str.ofString "n", L + 1)] h₀ (fun y => if y = Str.ofString "a" then some (.int (sv n ds : Nat) u) else none) (fun y => if y = Str.ofString "n" then some (.int n t) else none) ([] ++ (31, tabObj ps) :: []) := S
  repeat walk_at "st"
  refine rNewList (by simp) fun D0 g0 kg0 _ eD0 => ?_
  have kk0 := Kp.trans k1 kg0
  repeat walk_at "st"
  refine rDiv (by omega) (PyProof.noPylong_small (by omega)) fun _ _ => ?_
  rw [count_figs hn0 hlt hlast]
  refine rMulL (lst_is eD0) (Int.natCast_nonneg _) (by omega) (by simp) fun D g1 kg1 fD eD => ?_
  rw [Int.toNat_natCast] at eD
  obtain ⟨items0, hsz0, eD⟩ : ∃ items0 : Array Value, items0.size = ds.length ∧ g1.get? D = some (lst items0 0) := ⟨_, by simp, eD⟩
  obtain ⟨oD, eD', cD, nD, dD⟩ := lst_is eD
  clear eD
  have hbD0 : h₀.get? D = none := by
    cases q : h₀.get? D with
    | none => rfl
    | some o => have := kk0 _ _ q; rw [fD] at this; cases this
  have S2 := S.addV (Kp.trans kk0 kg1) hbD0 eD'
  have k2 : Kp g1 g1 := Kp.refl _
  have hbD : (h.hide 31).get? D = none := S.blt hbD0
  repeat walk_at "st"
  (rename St _ _ _ _ _ _ _ => S3)
  (rename Kp _ _ => k3)
  refine nestDef (pre := [(D, oD)]) (post := []) V k3 S3 O' hcode hqual (codeHd_of_K O'.K (by with_unfolding_all rfl)) (tab.hide hP) rfl rfl rfl rfl rfl rfl (by walk_at "st_le") (by decide) (Heap.hide_self h 31) fun f c' ctv doc pm h1 tk1 ps' own S1 tab1 hrec1 hk1 => ?_
  have k4 : Kp h1 h1 := Kp.refl _
  have hmf := List.Mem.head (a := (f, fnMade (Str.ofString "inner") qI2D (defParams i2dDef) (defBody i2dDef) (defScope i2dDef) [(Str.ofString "n", L + 1), (Str.ofString "inner", L + 1 + 1 + 1), (Str.ofString "a_digits", L + 1 + 1)] doc pm c' ctv)) (own ++ ([(D, oD)] ++ (31, tabObj ps') :: []))
  repeat walk_at "st"
  refine rTruI ?_
  have hpos : ((((sv n ds : Nat) : Int)) != 0) = true := by
    obtain ⟨r, x, rfl, hx⟩ := hlast
    have := sv_ge n r x hx
    have := Nat.two_pow_pos (n * r.length)
    rw [bne_iff_ne]; omega
  rw [hpos]
  repeat walk_at "st"
  have hmD : (D, oD) ∈ ((f, fnMade (Str.ofString "inner") qI2D (defParams i2dDef) (defBody i2dDef) (defScope i2dDef) [(Str.ofString "n", L + 1), (Str.ofString "inner", L + 1 + 1 + 1), (Str.ofString "a_digits", L + 1 + 1)] doc pm c' ctv) :: (own ++ ([(D, oD)] ++ (31, tabObj ps') :: [])) : List (Addr × Obj)) :=
    List.mem_cons_of_mem _ (List.mem_append_right _ (.head _))
  have hlD : h1.IsList D items0 := ⟨oD, S1.vols _ hmD, cD, nD, dD⟩
  refine rLenL hlD (by omega) fun t4 tk4 => ?_
  rw [hsz0]
  repeat walk_at "st"
  have X : I2D [(Str.ofString "n", L + 1), (Str.ofString "inner", L + 1 + 1 + 1), (Str.ofString "a_digits", L + 1 + 1)] (fun y => if y = Str.ofString "inner" then some (.ref f) else if y = Str.ofString "a_digits" then some (.ref D) else if y = Str.ofString "n" then some (.int n t) else none) f D n h1 :=
    ⟨⟨doc, pm, c', ctv, S1.vols _ hmf, hrec1 h1 S1.keep fun p hp => S1.vols p (List.mem_cons_of_mem _ (List.mem_append_left _ hp))⟩,
      fun m c hc => S1.cell m c (by
        simp only [List.mem_cons, Prod.mk.injEq, List.not_mem_nil, or_false] at hc
        rcases hc with ⟨rfl, rfl⟩ | ⟨rfl, rfl⟩ | ⟨rfl, rfl⟩ <;> rfl), by simp, rfl, rfl, ⟨t, rfl⟩⟩
  have hsv : sv n ds = sv n (seg ds 0 ds.length) := by rw [seg_all]
  rw [hsv]
  refine i2d_inner rfl hn hds hlt O' hbD ds.length 0 ds.length (Nat.le_refl _) hd0 (Nat.le_refl _) S1.keep X hlD hsz0 (hA'.less (by omega)) fun h5 tk5 items5 e5 hl5 la5 => ?_
  obtain ⟨o5, eo5, c5, n5, d5⟩ := id hl5
  have S5 := S1.stepB (pre := (f, fnMade (Str.ofString "inner") qI2D (defParams i2dDef) (defBody i2dDef) (defScope i2dDef) [(Str.ofString "n", L + 1), (Str.ofString "inner", L + 1 + 1 + 1), (Str.ofString "a_digits", L + 1 + 1)] doc pm c' ctv) :: own) hbD e5 eo5
  have k5 : Kp h5 h5 := Kp.refl _
  repeat walk_at "st"
  have hmP : (31, tabObj ps') ∈ ((f, fnMade (Str.ofString "inner") qI2D (defParams i2dDef) (defBody i2dDef) (defScope i2dDef) [(Str.ofString "n", L + 1), (Str.ofString "inner", L + 1 + 1 + 1), (Str.ofString "a_digits", L + 1 + 1)] doc pm c' ctv) :: own) ++ (D, o5) :: ([] ++ (31, tabObj ps') :: []) := by simp
  refine hQ D items5.toList h5 tk5 ps' ?_ (S5.vols (31, tabObj ps') hmP) (tab1.extBut e5 hlD) ?_ hl5 (ints_of la5 hsz0)
  · exact fun a o hne e => S5.keep a o ((Heap.hide_ne h hne).trans e)
  · cases q : h.get? D with
    | none => rfl
    | some o => have := k₀ _ _ q; rw [hbD0] at this; cases this
end
end

section
open PySem PySem.W PyProof.Rows PySem.Calls
set_option maxRecDepth 100000

/-- a text by its signs -/
noncomputable def T (l : List Nat) : Str := ⟨l.toArray⟩
theorem T_len (l : List Nat) : (T l).length = l.length := rfl
theorem T_inj {a b : List Nat} (h : T a = T b) : a = b := by
  have := congrArg (fun x : Str => x.cps.toList) h
  simpa [T] using this
theorem T_beq (a b : List Nat) : (T a == T b) = decide (a = b) := by
  by_cases h : a = b
  · subst h; simp
  · have : T a ≠ T b := fun e => h (T_inj e)
    simp [h, this]

/-- a plain value -/
inductive V1 | i (n : Int) | s (l : List Nat) | b (q : Bool)
noncomputable def V1.is : V1 → Value → Prop
  | .i n, v => ∃ t, v = .int n t
  | .s l, v => ∃ t, v = .str (T l) t
  | .b q, v => v = .bool q
theorem V1.uniq {x y : V1} {v : Value} (h : x.is v) (h' : y.is v) : x = y := by
  cases x <;> cases y <;> simp only [V1.is] at h h'
  · obtain ⟨t, rfl⟩ := h; obtain ⟨u, e⟩ := h'; cases e; rfl
  · obtain ⟨t, rfl⟩ := h; obtain ⟨u, e⟩ := h'; cases e
  · obtain ⟨t, rfl⟩ := h; cases h'
  · obtain ⟨t, rfl⟩ := h; obtain ⟨u, e⟩ := h'; cases e
  · obtain ⟨t, rfl⟩ := h; obtain ⟨u, e⟩ := h'
    injection e with e1 e2
    rw [T_inj e1]
  · obtain ⟨t, rfl⟩ := h; cases h'
  · subst h; obtain ⟨t, e⟩ := h'; cases e
  · subst h; obtain ⟨t, e⟩ := h'; cases e
  · subst h; cases h'; rfl
noncomputable abbrev Are (vs : List Value) (xs : List V1) : Prop := Paired (fun x v => V1.is x v) xs vs
theorem Are.get {vs : List Value} {xs : List V1} (h : Are vs xs) : ∀ {i : Nat} {v : Value}, vs[i]? = some v → ∃ x, xs[i]? = some x ∧ x.is v := by
  induction h with
  | nil => intro i v e; simp at e
  | cons ha _ ih => intro i v e; cases i with
    | zero => simp at e; subst e; exact ⟨_, by simp, ha⟩
    | succ i => simp at e; obtain ⟨x, e1, e2⟩ := ih e; exact ⟨x, by simpa using e1, e2⟩
theorem Are.get' {vs : List Value} {xs : List V1} (h : Are vs xs) : ∀ {i : Nat} {x : V1}, xs[i]? = some x → ∃ v, vs[i]? = some v ∧ x.is v := by
  induction h with
  | nil => intro i v e; simp at e
  | cons ha _ ih => intro i v e; cases i with
    | zero => simp at e; subst e; exact ⟨_, by simp, ha⟩
    | succ i => simp at e; obtain ⟨x, e1, e2⟩ := ih e; exact ⟨x, by simpa using e1, e2⟩
theorem Are.len {vs : List Value} {xs : List V1} (h : Are vs xs) : vs.length = xs.length := by
  induction h with
  | nil => rfl
  | cons _ _ ih => simp [ih]
theorem Are.snoc {vs : List Value} {xs : List V1} {v : Value} {x : V1} (h : Are vs xs) (hx : x.is v) : Are (vs ++ [v]) (xs ++ [x]) := Paired.snoc h hx
theorem Are.ints {vs : List Value} {ns : List Int} (h : IntsAre vs ns) : Are vs (ns.map .i) := by
  induction h with
  | nil => exact .nil
  | cons n t _ ih => exact .cons ⟨t, rfl⟩ ih
theorem Are.toInts {vs : List Value} {ns : List Int} (h : Are vs (ns.map .i)) : IntsAre vs ns := by
  induction ns generalizing vs with
  | nil => cases h; exact .nil
  | cons n r ih => cases h with | cons ha hr => obtain ⟨t, rfl⟩ := ha; exact .cons _ _ (ih hr)

theorem paired_of {p' : V1 → Bool} {f : V1 → V1} {p : Value → Bool} {F : Value → Value → Prop} : ∀ {vs : List Value} {xs : List V1} {ys : List Value}, Are vs xs → (∀ x v, x.is v → p v = p' x) → (∀ x v y, x.is v → F v y → (f x).is y) →
    Paired F (vs.filter p) ys → Are ys ((xs.filter p').map f)
  | _, _, ys, .nil, _, _, h => by
    cases h
    exact .nil
  | _, _, ys, .cons (a := x) (b := v) ha hr, hp, hF, h => by
    by_cases q : p v = true
    · rw [List.filter_cons_of_pos q] at h
      rw [List.filter_cons_of_pos (by rw [← hp x v ha]; exact q)]
      cases h with
      | cons h1 h2 => exact .cons (hF x v _ ha h1) (paired_of hr hp hF h2)
    · rw [List.filter_cons_of_neg q] at h
      rw [List.filter_cons_of_neg (by rw [← hp x v ha]; exact q)]
      exact paired_of hr hp hF h

theorem are_of_get {xs : List V1} : ∀ {vs : List Value}, vs.length = xs.length → (∀ (j : Nat) (v : Value), vs[j]? = some v → ∃ x, xs[j]? = some x ∧ V1.is x v) → Are vs xs := by
  induction xs with
  | nil => intro vs hl _; cases vs with
    | nil => exact .nil
    | cons => simp at hl
  | cons x r ih => intro vs hl h; cases vs with
    | nil => simp at hl
    | cons v vs =>
      obtain ⟨x', e, hx⟩ := h 0 v (by simp)
      simp at e; subst e
      exact .cons hx (ih (by simpa using hl) fun j v e => by obtain ⟨x', e', hx⟩ := h (j + 1) v (by simpa using e); exact ⟨x', by simpa using e', hx⟩)

/-- a source of values -/
noncomputable abbrev Src (prog : Program) (w : World) (A : Around) (I : Addr) (fp : List Addr) (xs : List V1) (W : Nat → Heap → Prop) : Prop :=
  Walks prog w A I fp [I] xs.length (fun i v => ∃ x, xs[i]? = some x ∧ V1.is x v) W
noncomputable def rng (a n : Nat) : List V1 := (List.range n).map fun i => .i ((a + i : Nat) : Int)
theorem rng_len (a n : Nat) : (rng a n).length = n := by simp [rng]
theorem rng_get {a n i : Nat} (h : i < n) : (rng a n)[i]? = some (.i ((a + i : Nat) : Int)) := by simp [rng, h]

section
variable {prog : Program} {w : World} {A : Around} {E : Value → Shared → Prop} {s : Shared} {h : Heap} {tk : Nat} {env : Env} {names : List (Str × NameKind)} {L : Addr} {cl : List (Str × Addr)}
  {b g : Heap} {m cm : Str → Option Value} {vol : List (Addr × Obj)} {d : Nat}

theorem Src.range (hh : A.handled = none) (I : Addr) (a n : Nat) : Src prog w A I [I] (rng a n) (fun i h => IsRangeIter h I ((a : Int) + (i : Nat) * 1) ((n : Int) - (i : Nat)) 1) where
  sub := fun _ hb => hb
  frame := (Walks.range (prog := prog) (w := w) hh I a 1 n).frame
  item := fun i s Q E hi st hQ => (Walks.range (prog := prog) (w := w) hh I a 1 n).item i s Q E (by simpa [rng_len] using hi) st fun v h' tk ⟨t, e⟩ st' hk => hQ v h' tk ⟨_, rng_get (by simpa [rng_len] using hi), t, by rw [e]; simp⟩ st' hk
  done := fun s Q E st hQ => (Walks.range (prog := prog) (w := w) hh I a 1 n).done s Q E (by rw [rng_len] at st; exact st) hQ
  self := (Walks.range (prog := prog) (w := w) hh I a 1 n).self
theorem Src.list (hh : A.handled = none) (I l : Addr) (hne : l ≠ I) {items : Array Value} {xs : List V1} (hx : Are items.toList xs) : Src prog w A I [I, l] xs (fun i h => h.IsListIter I l i ∧ h.IsList l items) := by
  have hl : xs.length = items.size := by rw [← Are.len hx]; simp
  exact {
    sub := (Walks.list (prog := prog) (w := w) hh I l hne items).sub
    frame := (Walks.list (prog := prog) (w := w) hh I l hne items).frame
    item := fun i s Q E hi st hQ => (Walks.list (prog := prog) (w := w) hh I l hne items).item i s Q E (by rw [← hl]; exact hi) st fun v h' tk e st' hk => hQ v h' tk (Are.get hx (by simpa using e)) st' hk
    done := fun s Q E st hQ => (Walks.list (prog := prog) (w := w) hh I l hne items).done s Q E (by rw [← hl]; exact st) hQ
    self := (Walks.list (prog := prog) (w := w) hh I l hne items).self }

noncomputable abbrev RgSt (I : Addr) (a n : Nat) : Nat → Heap → Prop := fun i h => IsRangeIter h I ((a : Int) + (i : Nat) * 1) ((n : Int) - (i : Nat)) 1
theorem rIterRange1 {n : Nat} {z : Int} {t : Tok} {K : Value → Shared → Prop} (hz : z = n) (hA : A.handled = none) (hn : n < 2 ^ 62)
    (hK : ∀ I h' tk', Kp h h' → h.get? I = none → Src prog w A I [I] (rng 0 n) (RgSt I 0 n) → RgSt I 0 n 0 h' → K (.ref I) (sh s h' tk')) :
    wpAny (model prog w) A (call (.type "range") [.int z t]) (fun xv s₁ => wpAny (model prog w) A (pyIter xv) K E s₁) E (sh s h tk) := by
  subst hz
  refine call_range_1 ?_
  refine wpAny_pyIter_range (IsRange.new ..) (small_one (by decide) (by decide) (by omega) (by omega)) ?_
  refine hK _ _ _ (Kp.trans (Kp.push _ _) (Kp.push _ _)) (Heap.get?_none_of_le (by simp [Heap.size_push])) (Src.range hA _ 0 n) ?_
  have hsz : Builtin.Range.rangeSize 0 n 1 = (n : Int) := by rw [rangeSize_one]; split <;> omega
  have e := Heap.get?_push_size (h.push { cls := .type "range", data := .fields #[.int 0 tk, .int n t, .int 1 (tk + 1)] }) (o := { cls := .type "range_iterator", data := .fields #[rawInt 0, rawInt (Builtin.Range.rangeSize 0 n 1), rawInt 1] }) rfl
  rw [hsz] at e
  have ob : ∀ x y : Int, x = 0 → y = n → IsRangeIter ((h.push { cls := .type "range", data := .fields #[.int 0 tk, .int n t, .int 1 (tk + 1)] }).push { cls := .type "range_iterator", data := .fields #[rawInt 0, rawInt n, rawInt 1] }) (h.push { cls := .type "range", data := .fields #[.int 0 tk, .int n t, .int 1 (tk + 1)] }).objs.size x y 1 := by
    rintro x y rfl rfl; exact e
  rw [hsz]
  exact ob _ _ (by simp) (by simp)
theorem rIterRange2 {a n : Nat} {y z : Int} {t u : Tok} {K : Value → Shared → Prop} (hy : y = a) (hz : z = (a + n : Nat)) (hA : A.handled = none) (ha : a + n < 2 ^ 62)
    (hK : ∀ I h' tk', Kp h h' → h.get? I = none → Src prog w A I [I] (rng a n) (RgSt I a n) → RgSt I a n 0 h' → K (.ref I) (sh s h' tk')) :
    wpAny (model prog w) A (call (.type "range") [.int y t, .int z u]) (fun xv s₁ => wpAny (model prog w) A (pyIter xv) K E s₁) E (sh s h tk) := by
  subst hy hz
  refine call_range_2 ?_
  refine wpAny_pyIter_range (IsRange.new ..) (small_one (by omega) (by omega) (by omega) (by omega)) ?_
  refine hK _ _ _ (Kp.trans (Kp.push _ _) (Kp.push _ _)) (Heap.get?_none_of_le (by simp [Heap.size_push])) (Src.range hA _ a n) ?_
  have hsz : Builtin.Range.rangeSize a (a + n : Nat) 1 = (n : Int) := by rw [rangeSize_one]; split <;> omega
  have e := Heap.get?_push_size (h.push { cls := .type "range", data := .fields #[.int a t, .int (a + n : Nat) u, .int 1 tk] }) (o := { cls := .type "range_iterator", data := .fields #[rawInt a, rawInt (Builtin.Range.rangeSize a (a + n : Nat) 1), rawInt 1] }) rfl
  rw [hsz] at e
  have ob : ∀ x y : Int, x = a → y = n → IsRangeIter ((h.push { cls := .type "range", data := .fields #[.int a t, .int (a + n : Nat) u, .int 1 tk] }).push { cls := .type "range_iterator", data := .fields #[rawInt a, rawInt n, rawInt 1] }) (h.push { cls := .type "range", data := .fields #[.int a t, .int (a + n : Nat) u, .int 1 tk] }).objs.size x y 1 := by
    rintro x y rfl rfl; exact e
  rw [hsz]
  exact ob _ _ (by simp) (by simp)
theorem rIterList {l : Addr} {items : Array Value} {xs : List V1} {K : Value → Shared → Prop} (hA : A.handled = none) (hl : h.IsList l items) (hx : Are items.toList xs)
    (hK : ∀ I h', Kp h h' → h.get? I = none → Src prog w A I [I, l] xs (fun i h => h.IsListIter I l i ∧ h.IsList l items) → (h'.IsListIter I l 0 ∧ h'.IsList l items) → (∀ a ∈ [I, l], a < h'.objs.size) → K (.ref I) (sh s h' tk)) :
    wpAny (model prog w) A (pyIter (.ref l)) K E (sh s h tk) := by
  obtain ⟨o, e, hc⟩ := id hl
  have hlt : l < h.objs.size := Heap.lt_size e
  have hne : l ≠ h.objs.size := Nat.ne_of_lt hlt
  refine wpAny_pyIter_list hl (hK _ _ (Kp.push _ _) (Heap.get?_none_of_le (Nat.le_refl _)) (Src.list hA _ l hne hx) ⟨⟨_, Heap.get?_push_size _ rfl, rfl, rfl⟩, o, Heap.get?_push_of_some _ e, hc⟩ ?_)
  intro a ha
  simp only [List.mem_cons, List.not_mem_nil, or_false] at ha
  show a < (h.push _).objs.size
  rw [Heap.size_push]
  rcases ha with rfl | rfl
  · exact Nat.lt_succ_self _
  · exact Nat.lt_succ_of_lt hlt

noncomputable def pOf (p' : V1 → Bool) (v : Value) : Bool := @decide (∃ x, V1.is x v ∧ p' x = true) (Classical.propDecidable _)
theorem pOf_eq {p' : V1 → Bool} {x : V1} {v : Value} (hx : V1.is x v) : pOf p' v = p' x := by
  unfold pOf
  cases q : p' x with
  | true => exact @decide_eq_true _ (Classical.propDecidable _) ⟨x, hx, q⟩
  | false =>
    refine @decide_eq_false _ (Classical.propDecidable _) fun ⟨y, hy, e⟩ => ?_
    rw [V1.uniq hy hx, q] at e; cases e
noncomputable def FOf (f : V1 → V1) (v y : Value) : Prop := ∀ x, V1.is x v → (f x).is y
/-- the names of a comprehension's own scope -/
noncomputable def relNames (names : List (Str × NameKind)) (inner : List (Str × NameKind)) : List (Str × NameKind) :=
  inner.map fun (n, k) => if (k == .free && names.lookup n == some .cell) then (n, .cell) else (n, k)
theorem compEnvOk (V : EnvOk env names L cl) {scope : Scope} {clos : List (Str × Addr)} {C : Addr} (hk : scope.kind = .function) : EnvOk (compEnvC scope clos C env) (relNames names scope.names) C clos where
  names := by
    show (relabel scope env).names = _
    unfold relabel relNames
    simp only [V.kind, V.kindOf, beq_self_eq_true, Bool.and_true]
  kind := hk
  loc := rfl
  glob := V.glob
  bi := V.bi
  cells := rfl

theorem forIn_nil_true {M : Model} {f : Expr → Bool → Sem (ForInStep Bool)} {Q : Bool → Shared → Prop} (hq : Q true s) : wpAny M A (forIn ([] : List Expr) true f) Q E s := by
  rw [List.forIn_nil]; exact wpAny_pure hq
theorem forIn_one_true {M : Model} {c : Expr} {Q : Bool → Shared → Prop} (hq : wpAny M A (isTrue c env (eval c env)) Q E s) :
    wpAny M A (forIn [c] true fun c r => if r = true then do let ok ← isTrue c env (eval c env); pure (ForInStep.yield ok) else pure (ForInStep.yield r)) Q E s := by
  rw [List.forIn_cons]
  simp only [if_true]
  refine wpAny_bind (wpAny_bind (wpAny_mono hq (fun ok s' h' => wpAny_pure ?_) fun _ _ e => e))
  show wpAny _ _ (forIn [] ok _) _ _ _
  rw [List.forIn_nil]; exact wpAny_pure h'

noncomputable def CompAt (prog : Program) (w : World) (A : Around) (env : Env) (scope : Scope) (clos : List (Str × Addr)) (x : Str) (ifs : List Expr) (elt : Expr) (p' : V1 → Bool) (f : V1 → V1) (Q : Value → Shared → Prop) (it : Value) (s₂ : Shared) : Prop :=
  ∃ I' fp wr n P St', it = .ref I' ∧ Walks prog w A I' fp wr n P St' ∧ n ≤ sizeLine ∧ St' 0 s₂.heap ∧ (∀ b ∈ fp, b < s₂.heap.objs.size) ∧
      QuietOnC prog w A env scope clos x ifs elt wr P (pOf p') (FOf f) s₂ ∧
      (∀ D h' tk' ys (vs : List Value), s₂.heap.get? D = none → h'.IsList D ys → h'.PlainList D ys → vs.length = n → (∀ j v, vs[j]? = some v → P j v) → Paired (FOf f) (vs.filter (pOf p')) ys.toList →
        (∀ b o, b ∉ wr → s₂.heap.get? b = some o → h'.get? b = some o) → Q (.ref D) { s₂ with heap := h', toks := tk' })
theorem rComp {elt iter : Expr} {x : Str} {px : Pos} {ifs : List Expr} {scope : Scope} {pos : Pos} {Q : Value → Shared → Prop} (clos : List (Str × Addr)) (p' : V1 → Bool) (f : V1 → V1)
    (hclos : closureFor scope env = pure clos) (hcell : ∀ y ∈ scope.names, y.2 ≠ .cell) (hkind : scope.kind = .function)
    (hnames : ∀ y ∈ scope.names, y.2 = .local → scope.names.lookup y.1 = some .local) (hx : scope.names.lookup x = some .local)
    (h : wpAny (model prog w) A (eval iter env) (fun xv s₁ => wpAny (model prog w) A (pyIter xv) (fun it s₂ => CompAt prog w A env scope clos x ifs elt p' f Q it s₂) E s₁) E s)
    (hs : ∀ x, foldedSetIterable iter env x = pure x := by intro _; rfl) :
    wpAny (model prog w) A (eval (.ListComp elt [⟨.Name x px, iter, ifs, 0⟩] scope pos) env) Q E s :=
  wpAny_ListComp_free (pOf p') (FOf f) hclos hcell hkind hnames hx h hs
/-- a comprehension over a source -/
theorem compGo {elt : Expr} {x : Str} {ifs : List Expr} {scope : Scope} {clos : List (Str × Addr)} {I : Addr} {fp : List Addr} {xs : List V1} {W : Nat → Heap → Prop} {h₁ h₂ : Heap} {Q : Value → Shared → Prop}
    (p' : V1 → Bool) (f : V1 → V1)
    (V : EnvOk env names L cl) (k : Kp g h₁) (S : St b L cl g m cm vol) (hI : h₁.get? I = none) (k2 : Kp h₁ h₂) (Wk : Src prog w A I fp xs W) (hW : W 0 h₂) (hfp : ∀ a ∈ fp, a < h₂.objs.size) (hn : xs.length ≤ 1000)
    (hkind : scope.kind = .function) (hsub : ∀ p ∈ clos, p ∈ cl) (hap : clos.Pairwise fun x y => x.2 ≠ y.2) (hck : (clos.map (·.1)).Nodup)
    (htests : ∀ env' C h₃ tk₃ (s₃ : Shared) m₃ E' v x', EnvOk env' (relNames names scope.names) C clos → St b C clos h₃ m₃ cm vol → x' ∈ xs → V1.is x' v → m₃ x = some v → tk ≤ tk₃ →
      wpAny (model prog w) A (forIn ifs true fun c r => if r = true then do let ok ← isTrue c env' (eval c env'); pure (ForInStep.yield ok) else pure (ForInStep.yield r)) (fun ok s₄ => ok = p' x' ∧ ∃ h₄ tk₄, s₄ = sh s₃ h₄ tk₄ ∧ Kp h₃ h₄) E' (sh s₃ h₃ tk₃))
    (helt : ∀ env' C h₃ tk₃ (s₃ : Shared) m₃ E' v x', EnvOk env' (relNames names scope.names) C clos → St b C clos h₃ m₃ cm vol → x' ∈ xs → V1.is x' v → p' x' = true → m₃ x = some v → tk ≤ tk₃ →
      wpAny (model prog w) A (eval elt env') (fun y s₄ => V1.is (f x') y ∧ ∃ h₄ tk₄, s₄ = sh s₃ h₄ tk₄ ∧ Kp h₃ h₄) E' (sh s₃ h₃ tk₃))
    (hQ : ∀ D h' tk' ys c, Kp h₁ h' → h₁.get? D = none → h'.get? D = some (lst ys c) → Are ys.toList ((xs.filter p').map f) → Q (.ref D) (sh s h' tk')) :
    CompAt prog w A env scope clos x ifs elt p' f Q (.ref I) (sh s h₂ tk) := by
  have old : ∀ {s₃ : Shared}, (∀ b o, b ∉ [I] → (sh s h₂ tk).heap.get? b = some o → s₃.heap.get? b = some o) → Kp h₁ s₃.heap := fun hk a o e =>
    hk a o (fun q => by simp only [List.mem_cons, List.not_mem_nil, or_false] at q; rw [q, hI] at e; cases e) (k2 _ _ e)
  have hst : ∀ {C : Addr} {s₃ : Shared} {m₃ : Str → Option Value}, h₂.objs.size ≤ C → s₃.heap.Ns C m₃ → (∀ b o, b ∉ [I] → (sh s h₂ tk).heap.get? b = some o → s₃.heap.get? b = some o) → St b C clos s₃.heap m₃ cm vol := fun {C s₃ m₃} hC hns hk => by
    have S' := S.step (Kp.trans k (old hk))
    have S1 := S.step (Kp.trans k k2)
    have lk : ∀ n c, clos.lookup n = some c → cl.lookup n = some c := fun n c hc => lookup_of_mem_nodup S.ck (hsub _ (mem_of_lookup hc))
    exact {
      ns := hns
      keep := S'.keep
      cell := fun n c hc => S'.cell n c (lk n c hc)
      vols := S'.vols
      sz := Nat.le_trans S.sz (Nat.le_trans (Nat.le_of_lt (show L < h₂.objs.size from S1.ns.lt)) hC)
      apart := hap
      cL := fun n c hc => Nat.ne_of_lt (Nat.lt_of_lt_of_le (S1.clt (hsub _ hc)) hC)
      vL := fun p hp => Nat.ne_of_lt (Nat.lt_of_lt_of_le (S1.lt hp) hC)
      vc := fun p hp n c hc => S.vc p hp n c (hsub _ hc)
      nd := S.nd
      ck := hck }
  refine ⟨I, fp, [I], xs.length, _, W, rfl, Wk, Nat.le_trans hn (by rw [sizeLine_eq]; decide), hW, hfp, ⟨?_, ?_⟩, ?_⟩
  · rintro C i v s₃ m₃ E' hC ⟨x', hx', hv⟩ hns hmx hk htk
    refine wpAny_mono (htests (compEnvC scope clos C env) C s₃.heap s₃.toks s₃ m₃ E' v x' (compEnvOk V hkind) (hst hC hns hk) (List.mem_of_getElem? hx') hv hmx htk) (fun ok s₄ ⟨e, h₄, tk₄, e4, k4⟩ => ⟨?_, h₄, tk₄, e4, k4⟩) fun _ _ e => e
    rw [pOf_eq hv]; exact e
  · rintro C i v s₃ m₃ E' hC ⟨x', hx', hv⟩ hpv hns hmx hk htk
    rw [pOf_eq hv] at hpv
    refine wpAny_mono (helt (compEnvC scope clos C env) C s₃.heap s₃.toks s₃ m₃ E' v x' (compEnvOk V hkind) (hst hC hns hk) (List.mem_of_getElem? hx') hv hpv hmx htk) (fun y s₄ ⟨e, h₄, tk₄, e4, k4⟩ => ⟨fun x hx => ?_, h₄, tk₄, e4, k4⟩) fun _ _ e => e
    rw [V1.uniq hx hv]; exact e
  · intro D h' tk' ys vs hD hl hpl hlen hP hF hk
    obtain ⟨c, ec⟩ := hpl
    refine hQ D h' tk' ys c (old (s₃ := { s with heap := h' }) hk) ?_ ec (paired_of (are_of_get hlen hP) (fun x v hx => pOf_eq hx) (fun x v y hx hF => hF x hx) hF)
    cases q : h₁.get? D with
    | none => rfl
    | some o => have := k2 _ _ q; rw [show h₂.get? D = none from hD] at this; cases this
end
end

section
open PySem PySem.W PyProof.Rows PySem.Calls
set_option maxRecDepth 100000

noncomputable def inf (x : List Nat) : List Nat → Bool
  | [] => x == []
  | c :: y => x.isPrefixOf (c :: y) || inf x y
theorem inf_iff (x : List Nat) : ∀ y, inf x y = true ↔ x <:+: y
  | [] => by simp [inf]
  | c :: y => by simp [inf, inf_iff x y, List.infix_cons_iff]
theorem found_T (x y : List Nat) : (!(Builtin.Str.occurrences (T y) (T x) 0 (T y).length 1).isEmpty) = inf x y := by
  rw [Bool.eq_iff_iff, StrLaws.found_iff, inf_iff]
  simp only [T_len, Builtin.Str.subAt, beq_iff_eq]
  constructor
  · rintro ⟨i, h1, h2⟩
    have h3 : (y.drop i).take x.length = x := by
      have := congrArg Array.toList h2
      simpa [T] using this
    exact ⟨y.take i, (y.drop i).drop x.length, by
      have : y = y.take i ++ ((y.drop i).take x.length ++ (y.drop i).drop x.length) := by rw [List.take_append_drop, List.take_append_drop]
      rw [h3] at this
      rw [List.append_assoc]; exact this.symm⟩
  · rintro ⟨p, q, rfl⟩
    refine ⟨p.length, by simp, ?_⟩
    simp [T]

noncomputable def cp (v : Option Int) (d n : Nat) : Nat := match v with | none => d | some i => (max 0 (min (if i < 0 then i + n else i) n)).toNat
noncomputable def slc (l : List Nat) (lo hi : Option Int) : List Nat := (l.drop (cp lo 0 l.length)).take (cp hi l.length l.length - cp lo 0 l.length)
theorem cp_le (v : Option Int) {d n : Nat} (h : d ≤ n) : cp v d n ≤ n := by
  unfold cp
  split
  · exact h
  · exact Int.toNat_le.mpr (Int.max_le.mpr ⟨Int.natCast_nonneg _, Int.min_le_right _ _⟩)
theorem sliceRange_nat (a b : Nat) : sliceRange a b 1 = (List.range (b - a)).map (fun k => a + k) := by
  unfold sliceRange
  simp only [show (1 : Int) > 0 by decide, if_true, Int.ediv_one]
  have e1 : (if (a : Int) < (b : Int) then (b : Int) - (a : Int) + 1 - 1 else 0).toNat = b - a := by
    split
    · rw [Int.add_sub_cancel, Int.toNat_sub]
    · rename_i h; rw [Nat.sub_eq_zero_of_le (Int.ofNat_le.mp (Int.not_lt.mp h))]; rfl
  rw [e1]
  refine List.map_congr_left fun k _ => ?_
  omega
theorem idx_eq (lo hi : Option Int) (n : Nat) : Builtin.Str.strSliceIndices lo hi 1 n = (List.range (cp hi n n - cp lo 0 n)).map (fun k => cp lo 0 n + k) := by
  rw [← sliceRange_nat]
  unfold Builtin.Str.strSliceIndices
  have e0 : ∀ i : Int, max (0 : Int) (min (if i < 0 then i + (n : Int) else i) (n : Int)) = ((max 0 (min (if i < 0 then i + (n : Int) else i) (n : Int))).toNat : Int) := fun i => (Int.toNat_of_nonneg (Int.le_max_left _ _)).symm
  cases lo <;> cases hi <;> simp only [show (1 : Int) > 0 by decide, if_true, cp] <;> (try rw [← e0]) <;> (try rw [← e0]) <;> rfl
theorem filterMap_idx {α : Type} (l : List α) (a : Nat) : ∀ c, ((List.range c).map (fun k => a + k)).filterMap (l[·]?) = (l.drop a).take c
  | 0 => by simp
  | c + 1 => by
    rw [List.range_succ, List.map_append, List.filterMap_append, filterMap_idx l a c, List.take_add_one]
    congr 1
    simp only [List.map_cons, List.map_nil, List.getElem?_drop]
    cases q : l[a + c]? <;> simp [List.filterMap_cons, q]
theorem slice_T (l : List Nat) (lo hi : Option Int) : Txt.slice (T l) lo hi = T (slc l lo hi) := by
  unfold Txt.slice
  rw [T_len, idx_eq]
  split
  · rename_i q
    simp only [Bool.and_eq_true, beq_iff_eq, List.length_map, List.length_range] at q
    have h1 := cp_le hi (Nat.le_refl l.length)
    have h3 := cp_le lo (Nat.zero_le l.length)
    have h2 : cp lo 0 l.length = 0 := by omega
    unfold slc
    rw [h2, List.drop_zero, List.take_of_length_le (by omega)]
  · have : (fun x : Nat => (T l).cps[x]?) = (fun x : Nat => l[x]?) := by funext x; simp [T]
    rw [this, filterMap_idx]
    rfl
theorem item_T {l : List Nat} {i : Nat} (hi : i < l.length) : Txt.item (T l) (i : Int) = T [l[i]] := by
  unfold Txt.item Txt.charAt
  have : PySem.seqIndex? (i : Int) (T l).length = some i := by
    unfold PySem.seqIndex?
    simp only [T_len]
    have h0 : ¬ ((i : Int) < 0) := by omega
    simp [h0, hi]
  rw [this]
  simp [T, hi]

section
variable {prog : Program} {w : World} {A : Around} {E : Value → Shared → Prop} {s : Shared} {h : Heap} {tk : Nat} {env : Env} {g b : Heap} {d : Nat} {t u : Tok} {l x y : List Nat}

theorem keptKp : KeptH (Kp g) := fun _ _ k => Kp.trans k (Kp.push _ _)
theorem small_size {n : Nat} (h : n ≤ 1000) : n ≤ sizeLine := Nat.le_trans h (by rw [sizeLine_eq]; decide)
theorem rSlcSS {value slice : Expr} {i j : Int} {ui uj : Tok} {Q : Value → Shared → Prop} (k : Kp g h) (hl : l.length ≤ 1000) (hq : ∀ t' h' tk', Kp g h' → Q (.str (T (slc l (some i) (some j))) t') (sh s h' tk'))
    (hs : subscripted slice false (.str (T l) t) (.ref h.objs.size) = operate [.ref h.objs.size, .str (T l) t] (getItem (.str (T l) t) (.ref h.objs.size)) := by with_unfolding_all rfl)
    (ht : ∀ r, letTemporaryGo value (.str (T l) t) r = pure () := by intro _; with_unfolding_all rfl) :
    wpAny (model prog w) A (subscriptTail value slice (.str (T l) t) (.ref h.objs.size)) Q E (sh s (h.push { cls := .type "slice", data := .fields #[.int i ui, .int j uj, .none] }) tk) :=
  tail_of_ItemOn (SBH.sliceItem_ss (s := sh s h tk) keptKp k (fun h' t' tk' k' => slice_T l _ _ ▸ hq t' h' tk' k') (small_size hl)) hs ht
theorem rSlcSN {value slice : Expr} {i : Int} {ui : Tok} {Q : Value → Shared → Prop} (k : Kp g h) (hl : l.length ≤ 1000) (hq : ∀ t' h' tk', Kp g h' → Q (.str (T (slc l (some i) none)) t') (sh s h' tk'))
    (hs : subscripted slice false (.str (T l) t) (.ref h.objs.size) = operate [.ref h.objs.size, .str (T l) t] (getItem (.str (T l) t) (.ref h.objs.size)) := by with_unfolding_all rfl)
    (ht : ∀ r, letTemporaryGo value (.str (T l) t) r = pure () := by intro _; with_unfolding_all rfl) :
    wpAny (model prog w) A (subscriptTail value slice (.str (T l) t) (.ref h.objs.size)) Q E (sh s (h.push { cls := .type "slice", data := .fields #[.int i ui, .none, .none] }) tk) :=
  tail_of_ItemOn (SBH.sliceItem_sn (s := sh s h tk) keptKp k (fun h' t' tk' k' => slice_T l _ _ ▸ hq t' h' tk' k') (small_size hl)) hs ht
theorem rSlcNS {value slice : Expr} {j : Int} {uj : Tok} {Q : Value → Shared → Prop} (k : Kp g h) (hl : l.length ≤ 1000) (hq : ∀ t' h' tk', Kp g h' → Q (.str (T (slc l none (some j))) t') (sh s h' tk'))
    (hs : subscripted slice false (.str (T l) t) (.ref h.objs.size) = operate [.ref h.objs.size, .str (T l) t] (getItem (.str (T l) t) (.ref h.objs.size)) := by with_unfolding_all rfl)
    (ht : ∀ r, letTemporaryGo value (.str (T l) t) r = pure () := by intro _; with_unfolding_all rfl) :
    wpAny (model prog w) A (subscriptTail value slice (.str (T l) t) (.ref h.objs.size)) Q E (sh s (h.push { cls := .type "slice", data := .fields #[.none, .int j uj, .none] }) tk) :=
  tail_of_ItemOn (SBH.sliceItem_ns (s := sh s h tk) keptKp k (fun h' t' tk' k' => slice_T l _ _ ▸ hq t' h' tk' k') (small_size hl)) hs ht
theorem rItemS {value slice : Expr} {i : Int} {n : Nat} {Q : Value → Shared → Prop} (hi : i = n) (hn : n < l.length) (hl : l.length ≤ 1000) (hq : ∀ t' tk', Q (.str (T [l[n]]) t') (sh s h tk'))
    (hs : subscripted slice false (.str (T l) t) (.int i u) = operate [.str (T l) t, .int i u] (getItem (.str (T l) t) (.int i u)) := by with_unfolding_all rfl)
    (ht : ∀ r, letTemporaryGo value (.str (T l) t) r = pure () := by intro _; with_unfolding_all rfl) :
    wpAny (model prog w) A (subscriptTail value slice (.str (T l) t) (.int i u)) Q E (sh s h tk) := by
  subst hi
  refine item_str (s := sh s h tk) ?_ (by rw [T_len]; omega) (by rw [T_len]; omega) (fun _ => ?_) hs ht
  · exact fitsSsize_of (N := 9223372036854775808) (by omega) (by omega) (Int.le_refl _)
  · rw [item_T hn]; exact hq _ _
theorem T_append (x y : List Nat) : T x ++ T y = T (x ++ y) := by
  show Str.mk (x.toArray ++ y.toArray) = _
  simp [T]
theorem rAddS {Q : Value → Shared → Prop} (hsz : x.length + y.length ≤ 1000) (hq : ∀ t' tk', Q (.str (T (x ++ y)) t') (sh s h tk')) : wpAny (model prog w) A (binaryOp .Add (.str (T x) t) (.str (T y) u)) Q E (sh s h tk) :=
  PyProof.Rows.add_str (fun t' tk' => T_append x y ▸ hq t' tk') (small_size (by rw [T_len, T_len]; exact hsz))
theorem rEqS {Q : Value → Shared → Prop} (hq : Q (.bool (decide (x = y))) (sh s h tk)) : wpAny (model prog w) A (compareOp .Eq (.str (T x) t) (.str (T y) u)) Q E (sh s h tk) :=
  PyProof.Rows.eq_str (by rw [T_beq]; exact hq)
theorem rNeS {Q : Value → Shared → Prop} (hq : Q (.bool (!decide (x = y))) (sh s h tk)) : wpAny (model prog w) A (compareOp .NotEq (.str (T x) t) (.str (T y) u)) Q E (sh s h tk) :=
  PyProof.Rows.ne_str (by rw [bne, T_beq]; exact hq)
theorem rInS {Q : Value → Shared → Prop} (hq : Q (.bool (inf x y)) (sh s h tk)) : wpAny (model prog w) A (compareOp .In (.str (T x) t) (.str (T y) u)) Q E (sh s h tk) :=
  PyProof.Rows.in_str (by rw [found_T]; exact hq)
theorem rLenT {Q : Value → Shared → Prop} (hl : l.length ≤ 1000) (hq : ∀ t' tk', Q (.int l.length t') (sh s h tk')) : wpAny (model prog w) A (call (.builtin "len") [.str (T l) t]) Q E (sh s h tk) :=
  rLenS (by rw [T_len]; omega) hq

/-- IS_CHARACTER_JUNK -/
theorem junk2 {Q : Value → Shared → Prop} (O : Okay w b) (kb : Kp b h) (hA : AOk A 2) (hq : ∀ h' tk, Kp h h' → Q (.bool (inf x y)) (sh s h' tk)) :
    wpAny (model prog w) A (call (.ref 29) [.str (T x) t, .str (T y) u]) Q E (sh s h tk) := by
  have O := O.keeps kb
  refine wpAny_call (enterP [(Str.ofString "ch", .str (T x) t), (Str.ofString "ws", .str (T y) u)] [] O hA (Kp.refl _) (by simp) (by simp) (by simp) (by with_unfolding_all rfl) (by with_unfolding_all rfl) (by with_unfolding_all rfl) rfl
    (BindsTo.of_defaults rfl (O.K 22 (fnObj w.params 22) (by with_unfolding_all rfl)) rfl rfl rfl) (by decide) (by rfl) rfl rfl rfl rfl rfl fun env h₀ tk V S k₀ hA' => ?_)
  have k : Kp h₀ h₀ := Kp.refl _
  repeat walk_at "st"
  refine rInS ?_
  exact hq _ _ k₀
theorem junk1 {Q : Value → Shared → Prop} (O : Okay w b) (kb : Kp b h) (hA : AOk A 2) (hq : ∀ h' tk, Kp h h' → Q (.bool (inf x [32, 9])) (sh s h' tk)) :
    wpAny (model prog w) A (call (.ref 29) [.str (T x) t]) Q E (sh s h tk) := by
  have O := O.keeps kb
  refine wpAny_call (enterP [(Str.ofString "ch", .str (T x) t), (Str.ofString "ws", .str (T [32, 9]) _)] [] O hA (Kp.refl _) (by simp) (by simp) (by simp) (by with_unfolding_all rfl) (by with_unfolding_all rfl) (by with_unfolding_all rfl) rfl
    (BindsTo.of_defaults rfl (O.K 22 (fnObj w.params 22) (by with_unfolding_all rfl)) rfl rfl rfl) (by decide) (by rfl) rfl rfl rfl rfl rfl fun env h₀ tk V S k₀ hA' => ?_)
  have k : Kp h₀ h₀ := Kp.refl _
  repeat walk_at "st"
  refine rInS ?_
  exact hq _ _ k₀
end
end

section
open PySem PySem.W PyProof.Rows PySem.Calls
set_option maxRecDepth 100000
theorem lit_257 : Str.ofString "257" = T [50, 53, 55] := by decide +kernel
theorem lit_bq : Str.ofString " \"" = T [32, 34] := by decide +kernel
theorem lit_e : Str.ofString "" = T [] := by decide +kernel
theorem lit_q : Str.ofString "\"" = T [34] := by decide +kernel
theorem lit_257q : Str.ofString "257 \"" = T [50, 53, 55, 32, 34] := by decide +kernel
theorem lit_257h : Str.ofString "257-\"" = T [50, 53, 55, 45, 34] := by decide +kernel
theorem lit_tail : Str.ofString "\" \"x\"" = T [34, 32, 34, 120, 34] := by decide +kernel
theorem lit_x : Str.ofString "x" = T [120] := by decide +kernel
theorem lit_qq : Str.ofString "\"\"" = T [34, 34] := by decide +kernel
theorem lit_b : Str.ofString " " = T [32] := by decide +kernel
theorem lit_t : Str.ofString "\t" = T [9] := by decide +kernel
theorem lit_bt : Str.ofString " \t" = T [32, 9] := by decide +kernel
theorem itF' {c : Bool} {p q : Prop} (hc : c = false) (h : q) : (if c = true then p else q) := by subst hc; simpa using h
theorem itT' {c : Bool} {p q : Prop} (hc : c = true) (h : p) : (if c = true then p else q) := by subst hc; simpa using h
section
variable {prog : Program} {w : World} {A : Around} {E : Value → Shared → Prop} {s : Shared} {h : Heap} {tk : Nat} {env : Env}
theorem rST {x : Str} {l : List Nat} {kd : Nat} {pos : Pos} {Q : Value → Shared → Prop} (hx : x = T l) (hq : ∀ t tk', Q (.str (T l) t) (sh s h tk')) : wpAny (model prog w) A (eval (.Constant (.str x) kd pos) env) Q E (sh s h tk) := by
  subst hx; exact rS hq
theorem rGe {a c : Int} {t u : Tok} {Q : Value → Shared → Prop} (hq : Q (.bool (decide (a ≥ c))) (sh s h tk)) : wpAny (model prog w) A (compareOp .GtE (.int a t) (.int c u)) Q E (sh s h tk) := PyProof.Rows.ge_int hq
end
theorem cpN (i n : Nat) : (max (0:Int) (min (i : Int) (n : Int))).toNat = min i n := by
  rcases Nat.le_total i n with q | q
  · rw [Nat.min_eq_left q, Int.min_eq_left (Int.ofNat_le.mpr q), Int.max_eq_right (Int.natCast_nonneg _), Int.toNat_natCast]
  · rw [Nat.min_eq_right q, Int.min_eq_right (Int.ofNat_le.mpr q), Int.max_eq_right (Int.natCast_nonneg _), Int.toNat_natCast]
theorem cpM (n : Nat) : (max (0:Int) (min (-1 + (n : Int)) (n : Int))).toNat = n - 1 := by
  cases n with
  | zero => rfl
  | succ n =>
    have e : (-1 : Int) + ((n+1 : Nat) : Int) = (n : Int) := by rw [Int.natCast_add, Int.add_comm, Int.add_assoc]; exact Int.add_zero _
    rw [e, cpN, Nat.min_eq_left (Nat.le_succ n)]; rfl
theorem natNeg (i : Nat) : ¬ ((i : Int) < 0) := Int.not_lt.mpr (Int.natCast_nonneg i)
theorem dt_min (l : List Nat) (i j : Nat) : (l.drop (min i l.length)).take (min j l.length - min i l.length) = (l.drop i).take (j - i) := by
  rcases Nat.le_total i l.length with q | q
  · rw [Nat.min_eq_left q]
    rcases Nat.le_total j l.length with r | r
    · rw [Nat.min_eq_left r]
    · rw [Nat.min_eq_right r, List.take_of_length_le (Nat.le_of_eq List.length_drop), List.take_of_length_le (Nat.le_trans (Nat.le_of_eq List.length_drop) (Nat.sub_le_sub_right r i))]
  · rw [Nat.min_eq_right q, List.drop_eq_nil_of_le (Nat.le_refl _), List.drop_eq_nil_of_le q, List.take_nil, List.take_nil]
theorem slc_ft (l : List Nat) (i j : Nat) : slc l (some (i : Int)) (some (j : Int)) = (l.drop i).take (j - i) := by
  unfold slc cp
  simp only [natNeg, if_false]
  rw [cpN, cpN, dt_min]
theorem slc_to (l : List Nat) (j : Nat) : slc l none (some (j : Int)) = l.take j := by
  unfold slc cp
  simp only [natNeg, if_false, List.drop_zero, Nat.sub_zero]
  rw [cpN]
  exact (dt_min l 0 j).trans rfl
theorem slc_from (l : List Nat) (i : Nat) : slc l (some (i : Int)) none = l.drop i := by
  unfold slc cp
  simp only [natNeg, if_false]
  rw [cpN, ← Nat.min_self l.length]
  have := dt_min l i l.length
  rw [Nat.min_self] at this ⊢
  rw [this]
  exact List.take_of_length_le (Nat.le_of_eq List.length_drop)
theorem slc_m1 (l : List Nat) : slc l none (some (-1)) = l.dropLast := by
  unfold slc cp
  simp only [show ((-1 : Int) < 0) from by decide, if_true, List.drop_zero, Nat.sub_zero]
  rw [List.dropLast_eq_take, cpM]
theorem slc_1m1 (l : List Nat) : slc l (some 1) (some (-1)) = l.tail.dropLast := by
  unfold slc cp
  simp only [show ((-1 : Int) < 0) from by decide, show ¬ ((1 : Int) < 0) from by decide, if_true, if_false]
  rw [List.dropLast_eq_take, cpM]
  cases l with
  | nil => rfl
  | cons a r =>
    have e1 : (max 0 (min (1 : Int) ((a :: r).length : Int))).toNat = 1 := (cpN 1 (r.length + 1)).trans (Nat.min_eq_left (Nat.le_add_left 1 r.length))
    rw [e1]
    simp only [List.drop_succ_cons, List.drop_zero, List.tail_cons, List.length_cons, Nat.add_sub_cancel]
/-- what stands between the marks -/
noncomputable def und : List Nat → List Nat
  | [] => []
  | c :: r => if c = 34 then (match r with | [] => [] | e :: r' => if e = 34 then 34 :: und r' else []) else c :: und r
theorem und_ne {c : Nat} {r : List Nat} (h : c ≠ 34) : und (c :: r) = c :: und r := by cases r <;> simp [und, h]
theorem und_qq {r : List Nat} : und (34 :: 34 :: r) = 34 :: und r := by simp [und]
/-- a text with its marks doubled -/
noncomputable def dbl (l : List Nat) : List Nat := l.flatMap fun c => if c = 34 then [34, 34] else [c]
theorem und_dbl {cl : List Nat} (hc : und cl = []) : ∀ l, und (dbl l ++ cl) = l
  | [] => hc
  | c :: l => by
    by_cases h : c = 34
    · subst h
      show und (34 :: 34 :: (dbl l ++ cl)) = _
      rw [und_qq, und_dbl hc l]
    · show und ((if c = 34 then [34, 34] else [c]) ++ dbl l ++ cl) = _
      rw [if_neg h]
      show und (c :: (dbl l ++ cl)) = _
      rw [und_ne h, und_dbl hc l]
end

local macro_rules | `(tactic| walk_at "st") => `(tactic| first
  | with_reducible refine PyProof.Rows.isTrue_and_nil ?_
  | with_reducible refine PyProof.Rows.isTrue_or_nil ?_
  | with_reducible refine PyProof.Rows.isTrue_and ?_
  | with_reducible refine PyProof.Rows.isTrue_or ?_
  | with_reducible refine rGe ?_
  | ((with_reducible refine' rST ?h ?_); (case h => walk_at "st_lit"); intro _ _)
  | (with_reducible refine rLenT (by assumption) ?_; intro _ _)
  | ((with_reducible refine' rSlcSS ?k ?l ?_ ?h1 ?h2); (case k => assumption); (case l => assumption); (case h1 => with_unfolding_all rfl); (case h2 => intro _; with_unfolding_all rfl); intro _ h' _ k')
  | ((with_reducible refine' rSlcNS ?k ?l ?_ ?h1 ?h2); (case k => assumption); (case l => assumption); (case h1 => with_unfolding_all rfl); (case h2 => intro _; with_unfolding_all rfl); intro _ h' _ k')
  | ((with_reducible refine' rSlcSN ?k ?l ?_ ?h1 ?h2); (case k => assumption); (case l => assumption); (case h1 => with_unfolding_all rfl); (case h2 => intro _; with_unfolding_all rfl); intro _ h' _ k')
  | with_reducible refine rEqS ?_
  | with_reducible refine rNeS ?_
  | with_reducible refine rInS ?_
  | with_reducible refine wpAny_Break ?_
  | ((with_reducible refine' wpAny_For ?_ ?h); (case h => intro _; rfl))
  | with_reducible refine wpAny_assign_Name ?_
  | with_reducible refine wpAny_Or2 ?_
  | with_reducible refine wpAny_And2 ?_
  )
local macro_rules | `(tactic| walk_at "st_lit") => `(tactic| first | exact lit_257 | exact lit_bq | exact lit_e | exact lit_q | exact lit_257q | exact lit_257h | exact lit_tail | exact lit_x | exact lit_qq | exact lit_b | exact lit_t | exact lit_bt)

section
open PySem PySem.W PyProof.Rows PySem.Calls
set_option maxRecDepth 100000
section
variable {prog : Program} {w : World} {A : Around} {E : Value → Shared → Prop} {s : Shared} {h : Heap} {tk : Nat} {env : Env} {g b : Heap} {d : Nat} {t u : Tok} {l x y : List Nat}

theorem p257_h {Q : Value → Shared → Prop} {body : List Nat} (O : Okay w b) (kb : Kp b h) (hA : AOk A 2) (hl : (50 :: 53 :: 55 :: 45 :: 34 :: body).length ≤ 1000) (hq : ∀ t' h' tk, Kp h h' → Q (.str (T []) t') (sh s h' tk)) :
    wpAny (model prog w) A (call (.ref 75) [.str (T (50 :: 53 :: 55 :: 45 :: 34 :: body)) t]) Q E (sh s h tk) := by
  have O := O.keeps kb
  refine wpAny_call (enterP [(Str.ofString "resp", .str (T _) t)] [] O hA (Kp.refl _) (by simp) (by simp) (by simp) (by with_unfolding_all rfl) (by with_unfolding_all rfl) (by with_unfolding_all rfl) rfl
    (BindsTo.of_eq rfl) (by decide) (by rfl) rfl rfl rfl rfl rfl fun env h₀ tk V S k₀ hA' => ?_)
  have k : Kp h₀ h₀ := Kp.refl _
  repeat walk_at "st"
  rw [show slc (50 :: 53 :: 55 :: 45 :: 34 :: body) none (some 3) = [50, 53, 55] from slc_to _ 3]
  refine itF' (by decide) ?_
  repeat walk_at "st"
  rw [show slc (50 :: 53 :: 55 :: 45 :: 34 :: body) (some 3) (some 5) = [45, 34] from slc_ft _ 3 5]
  refine itT' (by decide) ?_
  repeat walk_at "st"
  exact hq _ _ _ (Kp.trans k₀ (by assumption))

theorem whileH {env : Env} {R : Result → Shared → Prop} {test : Expr} {body orelse : List Stmt} {s : Shared} (I : Nat → Shared → Prop)
    (turn : ∀ n s, I n s → ∀ (Q1 Q2 : Flow → Shared → Prop) (E' : Value → Shared → Prop), (∀ m s₃, m < n → I m s₃ → Q1 .next s₃) → (∀ s₃, R (.ok .next) s₃ → Q1 .brk s₃) → (∀ s₃, R (.ok .next) s₃ → Q2 .next s₃) →
      wpAny (model prog w) A (isTrue test env (eval test env)) (fun b s₂ => if b then wpAny (model prog w) A (execs body env) Q1 E' s₂ else wpAny (model prog w) A (execs orelse env) Q2 E' s₂) E' s)
    (n : Nat) (h : I n s) : codeAny (model prog w) A (.whileLoop test body orelse env) R s :=
  codeAny_whileLoop I (fun n s h => turn n s h _ _ _ (fun m _ hm hi => ⟨m, hm, hi⟩) (fun _ z => z) fun _ z => z) n h
theorem hideR {env : Env} {R : Result → Shared → Prop} {test : Expr} {body orelse : List Stmt} {s : Shared}
    (hk : ∀ R' : Result → Shared → Prop, (∀ s', R (.ok .next) s' → R' (.ok .next) s') → codeAny (model prog w) A (.whileLoop test body orelse env) R' s) : codeAny (model prog w) A (.whileLoop test body orelse env) R s := hk R fun _ z => z
theorem p257_q {Q : Value → Shared → Prop} {body : List Nat} (O : Okay w b) (kb : Kp b h) (hA : AOk A 2) (hl : (50 :: 53 :: 55 :: 32 :: 34 :: body).length ≤ 1000) (hq : ∀ t' h' tk, Kp h h' → Q (.str (T (und body)) t') (sh s h' tk)) :
    wpAny (model prog w) A (call (.ref 75) [.str (T (50 :: 53 :: 55 :: 32 :: 34 :: body)) t]) Q E (sh s h tk) := by
  have O := O.keeps kb
  refine wpAny_call (enterP [(Str.ofString "resp", .str (T _) t)] [] O hA (Kp.refl _) (by simp) (by simp) (by simp) (by with_unfolding_all rfl) (by with_unfolding_all rfl) (by with_unfolding_all rfl) rfl
    (BindsTo.of_eq rfl) (by decide) (by rfl) rfl rfl rfl rfl rfl fun env h₀ tk V S k₀ hA' => ?_)
  have k : Kp h₀ h₀ := Kp.refl _
  generalize hLdef : h.objs.size = L at V S
  replace V : EnvOk env [(Str.ofString "resp", .local), (Str.ofString "dirname", .local), (Str.ofString "i", .local), (Str.ofString "n", .local), (Str.ofString "c", .local), (Str.ofString "error_reply", .globalImplicit), (Str.ofString "len", .globalImplicit)] L [] := V
  repeat walk_at "st"
  rw [show slc (50 :: 53 :: 55 :: 32 :: 34 :: body) none (some 3) = [50, 53, 55] from slc_to _ 3]
  refine itF' (by decide) ?_
  repeat walk_at "st"
  rw [show slc (50 :: 53 :: 55 :: 32 :: 34 :: body) (some 3) (some 5) = [32, 34] from slc_ft _ 3 5]
  refine itF' (by decide) ?_
  repeat walk_at "st"
  refine rLenT hl fun t1 tk1 => ?_
  repeat walk_at "st"
  generalize hre : 50 :: 53 :: 55 :: 32 :: 34 :: body = re at *
  have hb0 := k₀
  refine wpAny_While (hideR fun R' hRR => ?_)
  have hEnd : ∀ h1 tk m t, St h L [] h1 m (fun _ => none) [] → m (Str.ofString "dirname") = some (.str (T (und body)) t) → R' (.ok .next) (sh s h1 tk) := by
    intro h1 tk m t S e
    refine hRR _ ?_
    have k := Kp.refl h1
    repeat walk_at "st"
    exact hq _ _ _ S.keep
  clear hRR
  refine whileH (I := fun n s' => ∃ (i : Nat) (acc : List Nat) (h1 : Heap) (tk : Nat) (m : Str → Option Value), s' = sh s h1 tk ∧ n + i = re.length + 1 ∧ i ≤ re.length ∧ acc ++ und (re.drop i) = und body ∧ acc.length ≤ i ∧
      St h L [] h1 m (fun _ => none) [] ∧ (∃ t, m (Str.ofString "resp") = some (.str (T re) t)) ∧ (∃ t, m (Str.ofString "i") = some (.int i t)) ∧ (∃ t, m (Str.ofString "n") = some (.int re.length t)) ∧ (∃ t, m (Str.ofString "dirname") = some (.str (T acc) t))) ?_ (re.length - 4) ?_
  · intro n s' hI Q1 Q2 E' hN hB hO
    obtain ⟨i, acc, h1, tk, m, rfl, hni, hi, hacc, hal, S, ⟨t1, e1⟩, ⟨t2, e2⟩, ⟨t3, e3⟩, ⟨t4, e4⟩⟩ := hI
    have k := Kp.refl h1
    repeat walk_at "st"
    refine itB (fun hc => ?_) (fun hc => ?_)
    · have hil : i < re.length := by simpa using hc
      repeat walk_at "st"
      refine rItemS rfl hil hl fun t5 tk5 => ?_
      repeat walk_at "st"
      have hd1 := List.drop_eq_getElem_cons hil
      have hm := S.ns
      refine itB (fun hc2 => ?_) (fun hc2 => ?_)
      · have hq34 : re[i] = 34 := by simpa using hc2
        repeat walk_at "st"
        refine itB (fun hc3 => ?_) (fun hc3 => ?_)
        · have hge : re.length ≤ i + 1 := by have := of_decide_eq_true hc3; omega
          repeat walk_at "st"
          rw [List.drop_eq_nil_of_le (by omega : re.length ≤ i + 1)] at hd1
          rw [hd1, hq34] at hacc
          have hfin : acc = und body := by simpa [und] using hacc
          (rename St _ _ _ _ _ _ _ => S9)
          exact hB _ (hEnd _ _ _ _ S9 (by rw [← hfin]; exact e4))
        · have hlt : i + 1 < re.length := by have := of_decide_eq_false hc3; omega
          repeat walk_at "st"
          refine rItemS (n := i + 1) (by omega) hlt hl fun t6 tk6 => ?_
          repeat walk_at "st"
          refine itB (fun hc4 => ?_) (fun hc4 => ?_)
          · repeat walk_at "st"
            have hne : re[i + 1] ≠ 34 := by simpa using hc4
            rw [hd1, hq34, List.drop_eq_getElem_cons hlt] at hacc
            have hfin : acc = und body := by simpa [und, hne] using hacc
            (rename St _ _ _ _ _ _ _ => S9)
            exact hB _ (hEnd _ _ _ _ S9 (by rw [← hfin]; exact e4))
          · repeat walk_at "st"
            refine rAddS (by simp only [List.length_cons, List.length_nil]; omega) fun t7 tk7 => ?_
            repeat walk_at "st"
            (rename St _ _ _ _ _ _ _ => S9)
            have hne : re[i + 1] = 34 := by simpa using hc4
            refine hN (n - 2) _ (by omega) ⟨i + 2, acc ++ [re[i]], _, _, _, rfl, by omega, by omega, ?_, by simp; omega, S9, ⟨_, e1⟩, ⟨_, by show some _ = some _; congr 2⟩, ⟨_, e3⟩, ⟨_, rfl⟩⟩
            rw [← hacc, hd1, hq34, List.drop_eq_getElem_cons hlt, hne, und_qq]
            simp
      · repeat walk_at "st"
        refine rAddS (by simp only [List.length_cons, List.length_nil]; omega) fun t7 tk7 => ?_
        repeat walk_at "st"
        (rename St _ _ _ _ _ _ _ => S9)
        have hne : re[i] ≠ 34 := by simpa using hc2
        refine hN (n - 1) _ (by omega) ⟨i + 1, acc ++ [re[i]], _, _, _, rfl, by omega, by omega, ?_, by simp; omega, S9, ⟨_, e1⟩, ⟨_, rfl⟩, ⟨_, e3⟩, ⟨_, rfl⟩⟩
        rw [← hacc, hd1, List.append_assoc, List.singleton_append, und_ne hne]
    · have hil : ¬ i < re.length := by simpa using hc
      repeat walk_at "st"
      rw [List.drop_eq_nil_of_le (by omega)] at hacc
      have hfin : acc = und body := by simpa [und] using hacc
      exact hO _ (hEnd _ _ _ _ S (by rw [← hfin]; exact e4))
  · (rename St _ _ _ _ _ _ _ => S9)
    refine ⟨5, [], _, _, _, rfl, ?_, ?_, ?_, ?_, S9, ⟨_, rfl⟩, ⟨_, rfl⟩, ⟨_, rfl⟩, ⟨_, rfl⟩⟩
    · subst hre; simp only [List.length_cons]; omega
    · subst hre; simp only [List.length_cons]; omega
    · subst hre; rfl
    · exact Nat.zero_le _
end
end

section
open PySem PySem.W PyProof.Rows PySem.Calls
set_option maxRecDepth 100000
section
variable {prog : Program} {w : World} {A : Around} {E : Value → Shared → Prop} {s : Shared} {h : Heap} {tk : Nat} {env : Env} {g b : Heap} {d : Nat} {t u : Tok} {l x y : List Nat}

/-- a Formatter is made -/
theorem fmt_make {Q : Value → Shared → Prop} (O : Okay w b) (kb : Kp b h)
    (hq : ∀ x dx h', Kp h h' → h.get? x = none → h.get? dx = none → x ≠ dx → h'.get? x = some (instObj 149 dx) → h'.get? dx = some emptyDict → Q (.ref x) (sh s h' tk)) :
    wpAny (model prog w) A (call (.ref 149) []) Q E (sh s h tk) := by
  have O := O.keeps kb
  have X : (hd.heap_39 w.params).In (sh s h tk).heap := O.K
  have hx : ((h.push emptyDict).push (instObj 149 h.objs.size)).get? (h.objs.size + 1) = some (instObj 149 h.objs.size) := by
    have := Heap.get?_push_size (h.push emptyDict) (o := instObj 149 h.objs.size) rfl
    rwa [Heap.size_push] at this
  have hdx : ((h.push emptyDict).push (instObj 149 h.objs.size)).get? h.objs.size = some emptyDict := Heap.get?_push_of_some _ (Heap.get?_push_size _ rfl)
  have kk : Kp h ((h.push emptyDict).push (instObj 149 h.objs.size)) := Kp.trans (Kp.push _ _) (Kp.push _ _)
  have Y := makes_of (M := model prog w) X (C := 149) (by with_unfolding_all rfl)
  have hi : findIn (hd.heap_39 w.params) (.ref 149) "__init__" = some (some (.builtin "object.__init__")) := by with_unfolding_all rfl
  refine wpAny_call (make_core Y (looks_findIn X hi) (fun self => Looks.of_pure (oi_bind self)) (.inr ⟨rfl, rfl⟩) ?_)
  have t1 : Looks (model prog w) ((h.push emptyDict).push (instObj 149 h.objs.size)) (typeOf (.ref (h.objs.size + 1))) (.ref 149) := (Looks.ld hx).andThen .now
  have t2 : Looks (model prog w) ((h.push emptyDict).push (instObj 149 h.objs.size)) (isInstance (.ref (h.objs.size + 1)) (.type "object")) true := t1.andThen (Y.top.keeps kk)
  have z := hq (h.objs.size + 1) h.objs.size _ kk (Heap.get?_none_of_le (Nat.le_succ _)) (Heap.get?_none_of_le (Nat.le_refl _)) (Nat.ne_of_gt (Nat.lt_succ_self _)) hx hdx
  refine codeAny_call_builtin oi_plain entry_oi (@check_slot (model prog w) _ _ _ "object.__init__" "object" "__init__" (.ref (h.objs.size + 1)) [] [] _ oi_kind oi_split t2 (oi_args (.ref (h.objs.size + 1))) ?_)
  rw [oi_run]
  exact wpAny_pure (And.intro rfl z)
/-- its method -/
theorem fmt_get {pl : Sem Bool} {Q : Value × List Value → Shared → Prop} {x dx : Addr} (O : Okay w b) (kb : Kp b h) (hx : h.get? x = some (instObj 149 dx)) (hdx : h.get? dx = some emptyDict) (hq : Q (.ref 111, [.ref x]) (sh s h tk)) :
    wpAny (model prog w) A (getMethod (.ref x) (Str.ofString "get_value") pl) Q E (sh s h tk) := by
  have O := O.keeps kb
  have X : (hd.heap_39 w.params).In (sh s h tk).heap := O.K
  exact method_fn (s := sh s h tk) (ox := instObj 149 dx) (od := some emptyDict) X ⟨hx, rfl, rfl, hdx⟩ (by with_unfolding_all rfl) (by with_unfolding_all rfl) (by with_unfolding_all rfl) (by with_unfolding_all rfl) (by rfl) hq

theorem gv_int {Q : Value → Shared → Prop} {x D P : Addr} {items : Array Value} {i : Nat} {v : Value} (O : Okay w b) (kb : Kp b h) (hA : AOk A 2) (hD : h.IsList D items) (hi : i < 2 ^ 62) (hv : items[i]? = some v) (hq : ∀ h' tk, Kp h h' → Q v (sh s h' tk)) :
    wpAny (model prog w) A (call (.ref 111) [.ref x, .int i t, .ref D, .ref P]) Q E (sh s h tk) := by
  have O := O.keeps kb
  refine wpAny_call (enterP [(Str.ofString "self", .ref x), (Str.ofString "key", .int i t), (Str.ofString "args", .ref D), (Str.ofString "kwargs", .ref P)] [] O hA (Kp.refl _) (by simp) (by simp) (by simp) (by with_unfolding_all rfl) (by with_unfolding_all rfl) (by with_unfolding_all rfl) rfl
    (BindsTo.of_eq rfl) (by decide) (by rfl) rfl rfl rfl rfl rfl fun env h₀ tk V S k₀ hA' => ?_)
  have k : Kp h₀ h₀ := Kp.refl _
  repeat walk_at "st"
  refine IsiPair.int_int ?_
  repeat walk_at "st"
  have hD' : h₀.IsList D items := let ⟨o, e, r⟩ := hD; ⟨o, k₀ _ _ e, r⟩
  refine rItem hD' (by omega) (by omega) (by simpa using hv) ?_
  exact hq _ _ k₀
theorem isStr_self (y : Str) (u : Tok) : (PySem.strKind prog w).is y (.str y u) = true := by show Value.isStrOf y (.str y u) = true; simp [Value.isStrOf]
theorem rDictItem {value slice : Expr} {P : Addr} {kvs : List (Str × Value)} {v : Value} {Q : Value → Shared → Prop} (hd : h.DictOf (PySem.strKind prog w) P kvs) (hv : valueAt kvs (T x) = some v) (hq : ∀ tk', Q v (sh s h tk'))
    (hs : subscripted slice false (.ref P) (.str (T x) u) = operate [.str (T x) u, .ref P] (getItem (.ref P) (.str (T x) u)) := by with_unfolding_all rfl) :
    wpAny (model prog w) A (subscriptTail value slice (.ref P) (.str (T x) u)) Q E (sh s h tk) :=
  tail_any (s := sh s h tk) (Heap.DictOf.typeIs (s := sh s h tk) hd) slot_dict_getitem.lookup (wpAny_getItem_of (knd := PySem.strKind prog w) (k := T x) (isStr_self _ _) (hd.mapOf) hv (hq _)) hs
theorem gv_str {Q : Value → Shared → Prop} {x D P : Addr} {kvs : List (Str × Value)} {v : Value} (O : Okay w b) (kb : Kp b h) (hA : AOk A 2) (hd : h.DictOf (PySem.strKind prog w) P kvs) (hv : valueAt kvs (T y) = some v) (hq : ∀ h' tk, Kp h h' → Q v (sh s h' tk)) :
    wpAny (model prog w) A (call (.ref 111) [.ref x, .str (T y) t, .ref D, .ref P]) Q E (sh s h tk) := by
  have O := O.keeps kb
  refine wpAny_call (enterP [(Str.ofString "self", .ref x), (Str.ofString "key", .str (T y) t), (Str.ofString "args", .ref D), (Str.ofString "kwargs", .ref P)] [] O hA (Kp.refl _) (by simp) (by simp) (by simp) (by with_unfolding_all rfl) (by with_unfolding_all rfl) (by with_unfolding_all rfl) rfl
    (BindsTo.of_eq rfl) (by decide) (by rfl) rfl rfl rfl rfl rfl fun env h₀ tk V S k₀ hA' => ?_)
  have k : Kp h₀ h₀ := Kp.refl _
  repeat walk_at "st"
  refine IsiPair.str_int ?_
  repeat walk_at "st"
  have hd' : h₀.DictOf (PySem.strKind prog w) P kvs := let ⟨o, es, ep, e, r⟩ := hd; ⟨o, es, ep, k₀ _ _ e, r⟩
  refine rDictItem hd' hv fun tk' => ?_
  exact hq _ _ k₀
end
end

section
open PySem PySem.W PyProof.Rows PySem.Calls
set_option maxRecDepth 100000
theorem rng_inv {a n i : Nat} {x : V1} (h : (rng a n)[i]? = some x) : i < n ∧ x = .i ((a + i : Nat) : Int) := by
  have h1 := (List.getElem?_eq_some_iff.mp h).1
  have h2 : i < n := by simpa [rng_len] using h1
  rw [rng_get h2] at h
  exact ⟨h2, (Option.some.inj h).symm⟩
theorem rng_mem {a n : Nat} {x : V1} (h : x ∈ rng a n) : ∃ i, i < n ∧ x = .i ((a + i : Nat) : Int) := by
  obtain ⟨i, hi⟩ := List.getElem?_of_mem h
  exact ⟨i, rng_inv hi⟩
section
variable {prog : Program} {w : World} {A : Around} {E : Value → Shared → Prop} {s : Shared} {h : Heap} {tk : Nat} {env : Env} {names : List (Str × NameKind)} {L : Addr} {cl : List (Str × Addr)}
  {b g : Heap} {m cm : Str → Option Value} {vol : List (Addr × Obj)} {d : Nat} {t u : Tok} {l x y : List Nat}

/-- what a turn of a for loop leaves -/
noncomputable def TurnP (b : Heap) (L : Addr) (cl : List (Str × Addr)) (s : Shared) (J : Nat → Heap → (Str → Option Value) → (Str → Option Value) → List (Addr × Obj) → Prop) (R : Result → Shared → Prop) (i : Nat) (I : Addr) (o : Obj) (f : Flow) (s₃ : Shared) : Prop :=
  match f with
  | .next | .cont => ∃ h' tk' m' cm' vol', s₃ = sh s h' tk' ∧ J (i + 1) h' m' cm' vol' ∧ St b L cl h' m' cm' ((I, o) :: vol')
  | .brk => R (.ok .next) s₃
  | .ret v => R (.ok (.ret v)) s₃
theorem TurnP.next {J : Nat → Heap → (Str → Option Value) → (Str → Option Value) → List (Addr × Obj) → Prop} {R : Result → Shared → Prop} {i : Nat} {I : Addr} {o : Obj} {h' : Heap} {tk' : Nat} {m' cm' : Str → Option Value} {vol' : List (Addr × Obj)}
    (hj : J (i + 1) h' m' cm' vol') (S : St b L cl h' m' cm' ((I, o) :: vol')) : TurnP b L cl s J R i I o .next (sh s h' tk') := ⟨_, _, _, _, _, rfl, hj, S⟩
/-- a for loop over a range -/
theorem forGo2 {target : Expr} {body orelse : List Stmt} {xs : List V1} {I : Addr} {W : Nat → Heap → Prop} {R : Result → Shared → Prop} {h₁ h₂ : Heap} (J : Nat → Heap → (Str → Option Value) → (Str → Option Value) → List (Addr × Obj) → Prop)
    (k : Kp g h₁) (S : St b L cl g m cm vol) (hI : h₁.get? I = none) (k2 : Kp h₁ h₂) (Wk : Src prog w A I [I] xs W) (h0 : W 0 h₂) (hW : ∀ i h, W i h → ∃ o, h.get? I = some o) (hJ : J 0 h₂ m cm vol)
    (hst : ∀ i h h' m cm vol, J i h m cm vol → W i h → Heap.ExtBut I h h' → J i h' m cm vol)
    (turn : ∀ i x v o h tk m cm vol, xs[i]? = some x → V1.is x v → J i h m cm vol → St b L cl h m cm ((I, o) :: vol) → W (i + 1) h →
      ∀ (Q' : Flow → Shared → Prop) (E' : Value → Shared → Prop), (∀ f s₃, TurnP b L cl s J R i I o f s₃ → Q' f s₃) → wpAny (model prog w) A (assign target env v) (fun _ s₂ => wpAny (model prog w) A (execs body env) Q' E' s₂) E' (sh s h tk))
    (done : ∀ h tk m cm vol, J xs.length h m cm vol → St b L cl h m cm vol → wpAny (model prog w) A (execs orelse env) (fun f s₃ => R (.ok f) s₃) (notedBy (model prog w) A env fun e s' => R (.error e) s') (sh s h tk))
    (ht : ∀ v, letOwnedTupleGo target (.ref I) v = pure () := by intro _; rfl) :
    codeAny (model prog w) A (.forLoop target (.ref I) body orelse env) R (sh s h₂ tk) := by
  have hbI : b.get? I = none := (S.step k).blt hI
  refine codeAny_forLoop (I := fun n s' => ∃ i h tk m cm vol o, s' = sh s h tk ∧ n + i = xs.length + 1 ∧ i ≤ xs.length ∧ W i h ∧ J i h m cm vol ∧ St b L cl h m cm ((I, o) :: vol)) ?_ (xs.length + 1) ?_ ht
  · rintro n s' ⟨i, h, tk, m, cm, vol, o, rfl, hn, hi, hw, hj, S⟩
    by_cases hlt : i < xs.length
    · refine Wk.item i (sh s h tk) _ _ hlt hw fun v h' tk' ⟨x, hx, hv⟩ hw' hk => ?_
      have hk' : Heap.ExtBut I h h' := fun a o ha e => hk a o (by simpa using ha) e
      obtain ⟨o', eo'⟩ := hW _ _ hw'
      refine wpAny_mono (turn i x v o' h' tk' m cm vol hx hv (hst i h h' m cm vol hj hw hk') (S.stepB (pre := []) hbI hk' eo') hw' _ _ fun _ _ z => z) (fun _ s₂ z => wpAny_mono z (fun f s₃ z => ?_) fun _ _ e => e) fun _ _ e => e
      have fin : (∃ h' tk' m' cm' vol', s₃ = sh s h' tk' ∧ J (i + 1) h' m' cm' vol' ∧ St b L cl h' m' cm' ((I, o') :: vol')) → ∃ m, m < n ∧ ∃ i h tk m' cm vol o, s₃ = sh s h tk ∧ m + i = xs.length + 1 ∧ i ≤ xs.length ∧ W i h ∧ J i h m' cm vol ∧ St b L cl h m' cm ((I, o) :: vol) := by
        rintro ⟨h'', tk'', m', cm', vol', rfl, hj', S'⟩
        exact ⟨n - 1, by omega, i + 1, h'', tk'', m', cm', vol', o', rfl, by omega, by omega, Wk.frame _ _ _ hw' fun a ha o e => by
          simp only [List.mem_cons, List.not_mem_nil, or_false] at ha
          subst ha
          rw [eo'] at e; cases e
          exact S'.vols (a, o') (.head _), hj', S'⟩
      cases f with
      | next => exact fin z
      | cont => exact fin z
      | brk => exact z
      | ret v => exact z
    · have hl : i = xs.length := by omega
      subst hl
      refine Wk.done (sh s h tk) _ _ hw fun h' tk' hk => ?_
      have hk' : Heap.ExtBut I h h' := fun a o ha e => hk a o (by simpa using ha) e
      have S' : St b L cl h' m cm vol := by
        have hIv := S.nd
        rw [List.map_cons, List.nodup_cons] at hIv
        exact ⟨S.ns.extBut hk' (Ne.symm (S.vL _ (.head _))), fun a o e => hk' a o (fun q => by rw [q, hbI] at e; cases e) (S.keep a o e),
          fun n c hc => let ⟨ob, e, dd⟩ := S.cell n c hc; ⟨ob, hk' c ob (Ne.symm (S.vc _ (.head _) n c (mem_of_lookup hc))) e, dd⟩,
          fun p hp => hk' _ _ (fun q => hIv.1 (List.mem_map.mpr ⟨p, hp, q⟩)) (S.vols p (.tail _ hp)), S.sz, S.apart, S.cL, fun p hp => S.vL p (.tail _ hp), fun p hp => S.vc p (.tail _ hp), hIv.2, S.ck⟩
      exact done h' tk' m cm vol (hst _ h h' m cm vol hj hw hk') S'
  · obtain ⟨o, eo⟩ := hW _ _ h0
    exact ⟨0, h₂, tk, m, cm, vol, o, rfl, rfl, Nat.zero_le _, h0, hJ, S.step k |>.addV k2 hI eo⟩
theorem forGo {target : Expr} {body orelse : List Stmt} {xs : List V1} {I : Addr} {W : Nat → Heap → Prop} {R : Result → Shared → Prop} {h₁ h₂ : Heap} (J : Nat → Heap → (Str → Option Value) → (Str → Option Value) → List (Addr × Obj) → Prop)
    (k : Kp g h₁) (S : St b L cl g m cm vol) (hI : h₁.get? I = none) (k2 : Kp h₁ h₂) (Wk : Src prog w A I [I] xs W) (h0 : W 0 h₂) (hW : ∀ i h, W i h → ∃ o, h.get? I = some o) (hJ : J 0 h₂ m cm vol)
    (hst : ∀ i h h' m cm vol, J i h m cm vol → W i h → Heap.ExtBut I h h' → J i h' m cm vol)
    (turn : ∀ i x v o h tk m cm vol, xs[i]? = some x → V1.is x v → J i h m cm vol → St b L cl h m cm ((I, o) :: vol) →
      ∀ (Q' : Flow → Shared → Prop) (E' : Value → Shared → Prop), (∀ f s₃, TurnP b L cl s J R i I o f s₃ → Q' f s₃) → wpAny (model prog w) A (assign target env v) (fun _ s₂ => wpAny (model prog w) A (execs body env) Q' E' s₂) E' (sh s h tk))
    (done : ∀ h tk m cm vol, J xs.length h m cm vol → St b L cl h m cm vol → wpAny (model prog w) A (execs orelse env) (fun f s₃ => R (.ok f) s₃) (notedBy (model prog w) A env fun e s' => R (.error e) s') (sh s h tk))
    (ht : ∀ v, letOwnedTupleGo target (.ref I) v = pure () := by intro _; rfl) :
    codeAny (model prog w) A (.forLoop target (.ref I) body orelse env) R (sh s h₂ tk) := by
  exact forGo2 J k S hI k2 Wk h0 hW hJ hst (fun i x v o h tk m cm vol a b c d _ => turn i x v o h tk m cm vol a b c d) done ht
theorem RgSt.obj {I : Addr} {a n i : Nat} {h : Heap} (x : RgSt I a n i h) : ∃ o, h.get? I = some o := ⟨_, x⟩

theorem Are.strs {vs : List Value} {ls : List (List Nat)} (h : Are vs (ls.map .s)) : StrsAre vs (ls.map T) := by
  induction ls generalizing vs with
  | nil => cases h; exact .nil
  | cons n r ih => cases h with | cons ha hr => obtain ⟨t, rfl⟩ := ha; exact .cons _ _ (ih hr)
theorem any_T (ls : List (List Nat)) (x : List Nat) : (ls.map T).any (· == T x) = decide (x ∈ ls) := by
  rw [Bool.eq_iff_iff]
  simp only [List.any_map, List.any_eq_true, Function.comp_apply, T_beq, decide_eq_true_eq]
  constructor
  · rintro ⟨y, hy, rfl⟩; exact hy
  · intro h; exact ⟨x, h, rfl⟩
theorem rNotInL {D : Addr} {items : Array Value} {ls : List (List Nat)} {Q : Value → Shared → Prop} (hl : h.IsList D items) (ha : Are items.toList (ls.map .s)) (hq : Q (.bool (!decide (x ∈ ls))) (sh s h tk)) :
    wpAny (model prog w) A (compareOp .NotIn (.str (T x) t) (.ref D)) Q E (sh s h tk) :=
  notin_list_strs (s := sh s h tk) (vs := items.toList) (by simpa using hl) (Are.strs ha) (by rw [any_T]; exact hq)
theorem rInL {D : Addr} {items : Array Value} {ls : List (List Nat)} {Q : Value → Shared → Prop} (hl : h.IsList D items) (ha : Are items.toList (ls.map .s)) (hq : Q (.bool (decide (x ∈ ls))) (sh s h tk)) :
    wpAny (model prog w) A (compareOp .In (.str (T x) t) (.ref D)) Q E (sh s h tk) :=
  in_list_strs (s := sh s h tk) (vs := items.toList) (by simpa using hl) (Are.strs ha) (by rw [any_T]; exact hq)
theorem rAppend {pre post : List (Addr × Obj)} {D : Addr} {its : Array Value} {c : Nat} {v : Value} {Q : Value → Shared → Prop} (k : Kp g h) (S : St b L cl g m cm (pre ++ (D, lst its c) :: post)) (hb : b.get? D = none) (hsz : its.size ≤ 1000)
    (hq : ∀ h', St b L cl h' m cm (pre ++ (D, lst (its.push v) (c + 1)) :: post) → Q .none (sh s h' tk)) :
    wpAny (model prog w) A (call (.builtin "list.append") [.ref D, v]) Q E (sh s h tk) := by
  have S' := S.step k
  refine append_at (s := sh s h tk) (S'.vols (D, _) (List.mem_append_right _ (.head _))) (fun h' hs ho => hq h' (S'.setV hb hs ho)) (small_size hsz)
theorem rGetAppend {D : Addr} {its : Array Value} {c : Nat} {pl : Sem Bool} {Q : Value × List Value → Shared → Prop} (ho : h.get? D = some (lst its c)) (hq : Q (.builtin "list.append", [.ref D]) (sh s h tk)) :
    wpAny (model prog w) A (getMethod (.ref D) (Str.ofString "append") pl) Q E (sh s h tk) := getMethod_list_append (s := sh s h tk) ho rfl rfl hq
end
end

section
open PySem PySem.W PyProof.Rows PySem.Calls
set_option maxRecDepth 100000
noncomputable def addP (ps : List (List Nat)) (x : List Nat) : List (List Nat) := if x ∈ ps then ps else ps ++ [x]
noncomputable def subs (name : List Nat) (size n : Nat) : List (List Nat) := (List.range n).map fun p => (name.drop p).take size
noncomputable def partsTo (name : List Nat) (i : Nat) : List (List Nat) := (List.range i).foldl (fun ps i => (subs name (1 + i) (name.length - i)).foldl addP ps) [[]]
theorem partsTo_succ (name : List Nat) (i : Nat) : partsTo name (i + 1) = (subs name (1 + i) (name.length - i)).foldl addP (partsTo name i) := by
  simp [partsTo, List.range_succ]
theorem subs_succ (name : List Nat) (size n : Nat) : subs name size (n + 1) = subs name size n ++ [(name.drop n).take size] := by simp [subs, List.range_succ]
theorem slc_sub {l : List Nat} {a b : Int} (i k : Nat) (ha : a = i) (hb : b = (i + k : Nat)) : slc l (some a) (some b) = (l.drop i).take k := by
  subst ha hb; rw [slc_ft]; congr 1; omega
theorem addP_len (ps : List (List Nat)) (x : List Nat) : (addP ps x).length ≤ ps.length + 1 := by unfold addP; split <;> simp
section
variable {prog : Program} {w : World} {A : Around} {E : Value → Shared → Prop} {s : Shared} {h : Heap} {tk : Nat} {env : Env} {names : List (Str × NameKind)} {L : Addr} {cl : List (Str × Addr)}
  {b g : Heap} {m cm : Str → Option Value} {vol : List (Addr × Obj)} {d : Nat} {t u : Tok} {l x y : List Nat}

theorem parts_call {Q : Value → Shared → Prop} {name : List Nat} (O : Okay w b) (kb : Kp b h) (hA : AOk A 2) (hn : name.length ≤ 5)
    (hq : ∀ D its c h' tk', Kp h h' → h.get? D = none → h'.get? D = some (lst its c) → Are its.toList ((partsTo name name.length).map .s) → Q (.ref D) (sh s h' tk')) :
    wpAny (model prog w) A (call (.ref 160) [.str (T name) t]) Q E (sh s h tk) := by
  have O := O.keeps kb
  refine wpAny_call (enterP [(Str.ofString "name", .str (T name) t)] [] O hA (Kp.refl _) (by simp) (by simp) (by simp) (by with_unfolding_all rfl) (by with_unfolding_all rfl) (by with_unfolding_all rfl) rfl
    (BindsTo.of_eq rfl) (by decide) (by rfl) rfl rfl rfl rfl rfl fun env h₀ tk V S k₀ hA' => ?_)
  have k : Kp h₀ h₀ := Kp.refl _
  generalize hLdef : h.objs.size = L at V S
  replace V : EnvOk env [(Str.ofString "name", .local), (Str.ofString "parts", .local), (Str.ofString "size", .local), (Str.ofString "place", .local), (Str.ofString "range", .globalImplicit), (Str.ofString "len", .globalImplicit)] L [] := V
  have hl1 : name.length ≤ 1000 := by omega
  repeat walk_at "st"
  refine rNewList (by simp) fun D g0 kg0 hD0 eD0 => ?_
  have hbD := S.blt hD0
  have S1 := S.addV kg0 hD0 eD0
  have k1 := Kp.refl g0
  repeat walk_at "st"
  refine rLenT hl1 fun t1 tk1 => ?_
  repeat walk_at "st"
  refine rIterRange2 (a := 1) (n := name.length) rfl (by simp; omega) hA'.hd (by omega) fun I h2 tk2 k2 hI Wk h0 => ?_
  (rename St _ _ _ _ _ _ _ => S2)
  refine forGo (fun i h m cm vol => ∃ its c, vol = [(D, lst its c)] ∧ Are its.toList ((partsTo name i).map .s) ∧ (∃ t, m (Str.ofString "name") = some (.str (T name) t)) ∧ m (Str.ofString "parts") = some (.ref D) ∧ (partsTo name i).length ≤ 1 + 6 * i)
    (by assumption) S2 hI k2 Wk h0 (fun _ _ => RgSt.obj) ?_ (fun _ _ _ _ _ _ z _ _ => z) ?_ ?_
  · exact ⟨_, _, rfl, .cons ⟨_, rfl⟩ .nil, ⟨_, rfl⟩, rfl, by simp [partsTo]⟩
  · intro i x v o h tk m cm vol hx hv hJ S Q' E' hQ
    obtain ⟨its, c, rfl, ha, ⟨t2, e2⟩, e3, hlen⟩ := hJ
    obtain ⟨hi, rfl⟩ := rng_inv hx
    obtain ⟨t3, rfl⟩ := hv
    have k := Kp.refl h
    repeat walk_at "st"
    refine rLenT hl1 fun t4 tk4 => ?_
    repeat walk_at "st"
    refine rIterRange1 (n := name.length - i) (by omega) hA'.hd (by omega) fun I2 h2 tk2 k2 hI2 Wk2 h02 => ?_
    (rename St _ _ _ _ _ _ _ => S2)
    refine forGo (fun j h m cm vol => ∃ its c, vol = [(I, o), (D, lst its c)] ∧ Are its.toList (((subs name (1 + i) j).foldl addP (partsTo name i)).map .s) ∧ (∃ t, m (Str.ofString "name") = some (.str (T name) t)) ∧ m (Str.ofString "parts") = some (.ref D)
        ∧ (∃ t, m (Str.ofString "size") = some (.int (1 + i : Nat) t)) ∧ ((subs name (1 + i) j).foldl addP (partsTo name i)).length ≤ 1 + 6 * i + j)
      (by assumption) S2 hI2 k2 Wk2 h02 (fun _ _ => RgSt.obj) ?_ (fun _ _ _ _ _ _ z _ _ => z) ?_ ?_
    · exact ⟨_, _, rfl, ha, ⟨_, e2⟩, e3, ⟨_, rfl⟩, by simpa [subs] using hlen⟩
    · intro j x v o2 h tk m cm vol hx hv hJ S Q2 E2 hQ2
      obtain ⟨its, c, rfl, ha, ⟨t2, e2⟩, e3, ⟨t5, e5⟩, hlen⟩ := hJ
      obtain ⟨hj, rfl⟩ := rng_inv hx
      obtain ⟨t6, rfl⟩ := hv
      have k := Kp.refl h
      repeat walk_at "st"
      (rename St _ _ _ _ _ _ _ => S3)
      (rename Kp _ _ => k3)
      rw [slc_sub j (1 + i) (by omega) (by omega)]
      have hm := (S3.step k3).vols (D, lst its c) (.tail _ (.tail _ (.head _)))
      refine rNotInL (lst_is hm) ha ?_
      refine rBool ?_
      refine itB (fun hc => ?_) (fun hc => ?_)
      · repeat walk_at "st"
        refine rGetAppend hm ?_
        repeat walk_at "st"
        (rename Kp _ _ => k4)
        rw [slc_sub j (1 + i) (by omega) (by omega)]
        refine rAppend (pre := [(I2, o2), (I, o)]) (post := []) k4 S3 hbD (by have := Are.len ha; simp at this; omega) fun h' S4 => ?_
        repeat walk_at "st"
        refine hQ2 .next _ (TurnP.next ?_ S4)
        refine ⟨_, _, rfl, ?_, ⟨_, e2⟩, e3, ⟨_, e5⟩, ?_⟩
        · rw [subs_succ, List.foldl_append, List.foldl_cons, List.foldl_nil, addP, if_neg (by simpa using hc)]
          rw [Array.toList_push, List.map_append]
          exact Are.snoc ha ⟨_, rfl⟩
        · rw [subs_succ, List.foldl_append, List.foldl_cons, List.foldl_nil]
          have := addP_len ((subs name (1 + i) j).foldl addP (partsTo name i)) ((name.drop j).take (1 + i))
          omega
      · repeat walk_at "st"
        refine hQ2 .next _ (TurnP.next ?_ (S3.step (by assumption)))
        refine ⟨_, _, rfl, ?_, ⟨_, e2⟩, e3, ⟨_, e5⟩, ?_⟩
        · rw [subs_succ, List.foldl_append, List.foldl_cons, List.foldl_nil, addP, if_pos (by simpa using hc)]
          exact ha
        · rw [subs_succ, List.foldl_append, List.foldl_cons, List.foldl_nil]
          have := addP_len ((subs name (1 + i) j).foldl addP (partsTo name i)) ((name.drop j).take (1 + i))
          omega
    · rintro h tk m cm vol ⟨its, c, rfl, ha, ⟨t2, e2⟩, e3, ⟨t5, e5⟩, hlen⟩ S
      have k := Kp.refl h
      rw [rng_len, ← partsTo_succ] at ha hlen
      repeat walk_at "st"
      refine hQ .next _ (TurnP.next ?_ S)
      exact ⟨_, _, rfl, ha, ⟨_, e2⟩, e3, by omega⟩
  · rintro h tk m cm vol ⟨its, c, rfl, ha, ⟨t2, e2⟩, e3, hlen⟩ S
    have k := Kp.refl h
    repeat walk_at "st"
    rw [rng_len] at ha
    exact hq _ _ _ _ _ S.keep (by assumption) (S.vols (D, _) (.head _)) ha
end
end

section
open PySem PySem.W PyProof.Rows PySem.Calls PySem.SeqAt
set_option maxRecDepth 100000
noncomputable def V1.data : V1 → PyData | .i n => .int n | .s l => .str (T l) | .b q => .bool q
noncomputable def V1.kind : V1 → Nat | .i _ => 0 | .s _ => 1 | .b _ => 2
noncomputable def V1.ok : V1 → Bool | .s l => l.all (· < 0x110000) | _ => true
theorem V1.eq_data (x y : V1) : PySem.Spec.same x.data y.data = true ↔ x = y := by
  cases x <;> cases y <;> simp [V1.data, PySem.Spec.same]
  constructor
  · exact T_inj
  · rintro rfl; rfl
noncomputable def eqV (xs ys : List V1) : Bool := @decide (xs = ys) (Classical.propDecidable _)
theorem eqV_iff {xs ys : List V1} : eqV xs ys = true ↔ xs = ys := @decide_eq_true_iff _ (Classical.propDecidable _)
theorem eqV_self (xs : List V1) : eqV xs xs = true := eqV_iff.mpr rfl
theorem same_V1 : ∀ xs ys : List V1, PySem.Spec.sameAll (xs.map V1.data) (ys.map V1.data) = eqV xs ys
  | [], [] => by rw [eqV_self]; simp [PySem.Spec.sameAll]
  | [], _ :: _ => by rw [Bool.eq_iff_iff, eqV_iff]; simp [PySem.Spec.sameAll]
  | _ :: _, [] => by rw [Bool.eq_iff_iff, eqV_iff]; simp [PySem.Spec.sameAll]
  | x :: r, y :: q => by
    simp only [List.map_cons, PySem.Spec.sameAll, same_V1 r q]
    rw [Bool.eq_iff_iff, eqV_iff]
    simp [V1.eq_data, eqV_iff]
theorem noMix_V1 {κ : Nat} : ∀ {xs ys : List V1}, (∀ x ∈ xs, x.kind = κ) → (∀ y ∈ ys, y.kind = κ) → noMixAll (xs.map V1.data) (ys.map V1.data) = true
  | [], [], _, _ => by simp [noMixAll]
  | [], _ :: _, _, _ => by simp [noMixAll]
  | _ :: _, [], _, _ => by simp [noMixAll]
  | x :: r, y :: q, hx, hy => by
    simp only [List.map_cons, noMixAll, noMix_V1 (κ := κ) (fun z hz => hx z (.tail _ hz)) (fun z hz => hy z (.tail _ hz)), Bool.and_true]
    have h1 := hx x (.head _)
    have h2 := hy y (.head _)
    cases x <;> cases y <;> first | rfl | (simp only [V1.kind] at h1 h2; omega)
theorem depth_V1 : ∀ xs : List V1, PyData.depthAll (xs.map V1.data) ≤ 1
  | [] => by simp [PyData.depthAll]
  | x :: r => by
    have := depth_V1 r
    simp only [List.map_cons, PyData.depthAll]
    have : PyData.depth x.data ≤ 0 := by cases x <;> simp [V1.data, PyData.depth]
    omega
theorem lay_V1 : ∀ {xs : List V1}, (∀ x ∈ xs, x.ok = true) → PyData.canLayAll0 (xs.map V1.data) = true
  | [], _ => by simp [PyData.canLayAll0]
  | x :: r, h => by
    have h1 : PyData.canLay0 x.data = true := by
      have := h x (.head _)
      cases x with
      | s l => simp only [V1.data, PyData.canLay0, PyData.strOk, T]; simpa [V1.ok] using this
      | _ => rfl
    simp only [List.map_cons, PyData.canLayAll0, h1, lay_V1 (fun z hz => h z (.tail _ hz)), Bool.and_self]
theorem shaped_V1 {xs : List V1} (h : ∀ x ∈ xs, x.ok = true) : shaped (.list (xs.map V1.data)) = true := by
  have h1 := depth_V1 xs
  have h2 : PyData.depth (.list (xs.map V1.data)) ≤ 64 := by simp only [PyData.depth]; omega
  show (PyData.canLay0 (.list (xs.map V1.data)) && decide (PyData.depth (.list (xs.map V1.data)) ≤ 64)) = true
  rw [Bool.and_eq_true]
  exact ⟨by simp only [PyData.canLay0]; exact lay_V1 h, decide_eq_true h2⟩
theorem readsAll_V1 {h : Heap} : ∀ {vs : List Value} {xs : List V1}, Are vs xs → ReadsAll h vs (xs.map V1.data) []
  | _, _, .nil => .nil
  | _, _, .cons (a := x) (b := v) ha r => by
    have h1 : Reads h v x.data [] := by
      cases x with
      | i n => obtain ⟨t, rfl⟩ := ha; exact Reads.int n t
      | s l => obtain ⟨t, rfl⟩ := ha; exact Reads.str _ t
      | b q => cases ha; exact Reads.bool q
    have := ReadsAll.cons h1 (readsAll_V1 (h := h) r)
    simpa using this
theorem reads_V1 {h : Heap} {a : Addr} {items : Array Value} {xs : List V1} (hl : h.IsList a items) (hi : Are items.toList xs) : Reads h (.ref a) (.list (xs.map V1.data)) [a] := by
  obtain ⟨o, ho, hc, n, hd⟩ := hl
  exact Reads.list ho hc hd (readsAll_V1 hi)
section
variable {prog : Program} {w : World} {A : Around} {E : Value → Shared → Prop} {s : Shared} {h : Heap} {tk : Nat} {env : Env} {names : List (Str × NameKind)} {L : Addr} {cl : List (Str × Addr)}
  {b g : Heap} {m cm : Str → Option Value} {vol : List (Addr × Obj)} {d : Nat} {t u : Tok} {l x y : List Nat}

theorem nilapp {M : Model} {f : Value} {vs : List Value} {Q : Value → Shared → Prop} (hq : wpAny M A (call f vs) Q E s) : wpAny M A (call f ([] ++ vs)) Q E s := hq
theorem oneapp {M : Model} {f v : Value} {vs : List Value} {Q : Value → Shared → Prop} (hq : wpAny M A (call f (v :: vs)) Q E s) : wpAny M A (call f ([v] ++ vs)) Q E s := hq
theorem rNeg {a : Int} {Q : Value → Shared → Prop} (hq : ∀ t tk', Q (.int (-a) t) (sh s h tk')) : wpAny (model prog w) A (unaryOp .USub (.int a t)) Q E (sh s h tk) := PyProof.Rows.neg_int (hq _ _)
theorem rNeL {a c : Addr} {ia ic : Array Value} {xs ys : List V1} {Q : Value → Shared → Prop} (κ : Nat) (ha : h.IsList a ia) (hx : Are ia.toList xs) (hc : h.IsList c ic) (hy : Are ic.toList ys) (hA : AOk A 1)
    (kx : ∀ x ∈ xs, x.kind = κ) (ky : ∀ y ∈ ys, y.kind = κ) (ox : ∀ x ∈ xs, x.ok = true) (oy : ∀ y ∈ ys, y.ok = true) (hq : Q (.bool (!eqV xs ys)) (sh s h tk)) :
    wpAny (model prog w) A (compareOp .NotEq (.ref a) (.ref c)) Q E (sh s h tk) :=
  ne_dataH_same (s := sh s h tk) (reads_V1 ha hx) (reads_V1 hc hy) (shaped_V1 ox) (shaped_V1 oy) (by have := hA.un; unfold cLine; omega)
    (by simp only [noMix]; exact noMix_V1 kx ky) (by simp only [PySem.Spec.same]; rw [same_V1]; exact hq)
/-- a list's beginning -/
theorem rSlcL {value slice : Expr} {a : Addr} {items : Array Value} {xs : List V1} {j : Int} {n : Nat} {uj : Tok} {Q : Value → Shared → Prop} (hj : j = n) (hn : n ≤ items.size) (ha : h.IsList a items) (hx : Are items.toList xs) (hsz : items.size ≤ 1000)
    (hq : ∀ D h' its, Kp h h' → h.get? D = none → h'.get? D = some (lst its 0) → Are its.toList (xs.take n) → Q (.ref D) (sh s h' tk))
    (hs : subscripted slice false (.ref a) (.ref h.objs.size) = operate [.ref h.objs.size, .ref a] (getItem (.ref a) (.ref h.objs.size)) := by with_unfolding_all rfl)
    (ht : ∀ r, letTemporaryGo value (.ref a) r = pure () := by intro _; with_unfolding_all rfl) :
    wpAny (model prog w) A (subscriptTail value slice (.ref a) (.ref h.objs.size)) Q E (sh s (h.push { cls := .type "slice", data := .fields #[.none, .int j uj, .none] }) tk) := by
  subst hj
  have hp : slicePick items none (some (n : Int)) none = (items.toList.take n).toArray := slicePick_upto items n hn
  refine slice_listK (s := sh s h tk) ha .none (.int _ _) ?_ hs ht (small_size hsz)
  refine hq (h.objs.size + 1) _ (slicePick items none (some (n : Int)) none) (Kp.trans (Kp.push _ _) (Kp.push _ _)) (Heap.get?_none_of_le (Nat.le_succ _)) ?_ ?_
  · have := Heap.get?_push_size (h.push { cls := .type "slice", data := .fields #[.none, .int n uj, .none] }) (o := lst (slicePick items none (some (n : Int)) none) 0) rfl
    rwa [Heap.size_push] at this
  · rw [hp]
    simp only
    clear hp hn hsz hq hs ht ha
    generalize items.toList = vs at hx
    induction hx generalizing n with
    | nil => simp; exact .nil
    | cons h1 h2 ih => cases n with
      | zero => simp; exact .nil
      | succ n => simp only [List.take_succ_cons]; exact .cons h1 (ih)
/-- the last of a list -/
theorem rItemLast {value slice : Expr} {a : Addr} {items : Array Value} {v : Value} {Q : Value → Shared → Prop} (ha : h.IsList a items) (hsz : items.size ≤ 1000) (h0 : 0 < items.size) (hv : items[items.size - 1]? = some v) (hq : Q v (sh s h tk))
    (hs : subscripted slice false (.ref a) (.int (-1) u) = operate [.ref a, .int (-1) u] (getItem (.ref a) (.int (-1) u)) := by with_unfolding_all rfl) :
    wpAny (model prog w) A (subscriptTail value slice (.ref a) (.int (-1) u)) Q E (sh s h tk) := by
  have e : ((-1 : Int) + items.size).toNat = items.size - 1 := by omega
  exact tail_any (s := sh s h tk) (Heap.IsList.typeIs (s := sh s h tk) ha) slot_list_getitem.lookup (wpAny_getItem_list_neg (s := sh s h tk) ha (by decide) (by omega) (by decide) (by rw [e]; exact hv) hq) hs
end
end

local macro_rules | `(tactic| walk_at "st") => `(tactic| first
  | with_reducible refine nilapp ?_
  | with_reducible refine oneapp ?_
  | with_reducible refine wpAny_UnaryOp ?_
  | ((with_reducible refine' wpAny_AugAssign_SubscriptAny ?_ ?h); (case h => intros; rfl))
  | with_reducible refine wpAny_AugAssign_Name ?_
  | ((with_reducible refine' lnL ?V ?k ?S ?a ?b ?_); (case V => assumption); (case k => assumption); (case S => assumption); (case a => rfl); (case b => first | rfl | assumption))
  | (with_reducible refine rNeg ?_; intro _ _)
  | ((with_reducible refine' rCallG ?k ?S ?O ?f ?_ ?h ?h2); (case k => assumption); (case S => assumption); (case O => assumption); (case f => with_unfolding_all rfl); (case h => rfl); (case h2 => rfl))
  | ((with_reducible refine' fnAndG ?k ?S ?O ?f ?_); (case k => assumption); (case S => assumption); (case O => assumption); (case f => with_unfolding_all rfl))
  )


section
open PySem PySem.W PyProof.Rows PySem.Calls PySem.SeqAt
set_option maxRecDepth 100000
noncomputable def sizes (p : List Nat) : List Nat := (List.range p.length).filter fun s => p.take s == p.drop (p.length - s)
section
variable {prog : Program} {w : World} {A : Around} {E : Value → Shared → Prop} {s : Shared} {h : Heap} {tk : Nat} {env : Env} {names : List (Str × NameKind)} {L : Addr} {cl : List (Str × Addr)}
  {b g : Heap} {m cm : Str → Option Value} {vol : List (Addr × Obj)} {d : Nat} {t u : Tok} {l x y p : List Nat}

noncomputable def v1n : V1 → Nat | .i n => n.toNat | _ => 0
theorem border_call {Q : Value → Shared → Prop} {z : Nat} (O : Okay w b) (kb : Kp b h) (hA : AOk A 2) (hp : p.length ≤ 5) (hz : (sizes p).getLast? = some z)
    (hq : ∀ t h' tk', Kp h h' → Q (.str (T (p.take z)) t) (sh s h' tk')) :
    wpAny (model prog w) A (call (.ref 165) [.str (T p) t]) Q E (sh s h tk) := by
  have O := O.keeps kb
  refine wpAny_call (enterC [(Str.ofString "part", .str (T p) t)] [] O hA (Kp.refl _) (by simp) (by simp) (by simp) (by with_unfolding_all rfl) (by with_unfolding_all rfl) (by with_unfolding_all rfl) rfl
    rfl rfl (kinds_of (by kinds_ok)) (by decide) rfl rfl rfl rfl rfl fun env h₀ tk _ _ V S k₀ hA' => ?_)
  have k : Kp h₀ h₀ := Kp.refl _
  generalize hLdef : h.objs.size = L at V S
  replace V : EnvOk env [(Str.ofString "part", .cell), (Str.ofString "range", .globalImplicit), (Str.ofString "len", .globalImplicit)] L [(Str.ofString "part", L + 1)] := V
  replace S : St h L [(Str.ofString "part", L + 1)] h₀ (fun _ => none) (fun y => if y = Str.ofString "part" then some (.str (T p) t) else none) [] := S
  have hl1 : p.length ≤ 1000 := by omega
  repeat walk_at "st"
  refine rComp [(Str.ofString "part", L + 1)] (fun x => p.take (v1n x) == p.drop (p.length - v1n x)) (fun x => .s (p.take (v1n x))) (by rw [V.closure]; rfl) (by decide) rfl (by decide) rfl ?_
  repeat walk_at "st"
  refine rIterRange1 (n := p.length) rfl hA'.hd (by omega) fun I h2 tk2 k2 hI Wk h0 => ?_
  refine compGo _ _ V (by assumption) S hI k2 Wk h0 (by simpa using (RgSt.obj h0).elim fun _ e => Heap.lt_size e) (by rw [rng_len]; omega) (by rfl) (by simp) (by simp) (by simp) ?_ ?_ ?_
  · intro env' C h₃ tk₃ s₃ m₃ E' v x' V' S' hx' hv hmx _
    obtain ⟨i, hi, rfl⟩ := rng_mem hx'
    obtain ⟨t2, rfl⟩ := hv
    replace V' : EnvOk env' [(Str.ofString ".0", .local), (Str.ofString "size", .local), (Str.ofString "len", .globalImplicit), (Str.ofString "part", .cell)] C [(Str.ofString "part", L + 1)] := V'
    have k3 := Kp.refl h₃
    refine forIn_one_true ?_
    repeat walk_at "st"
    refine ⟨?_, _, _, rfl, by assumption⟩
    rw [show slc p none (some ((0 + i : Nat) : Int)) = p.take (0 + i) from slc_to _ _, show slc p (some ((p.length : Int) - ((0 + i : Nat) : Int))) none = p.drop (p.length - i) from by rw [show (p.length : Int) - ((0 + i : Nat) : Int) = ((p.length - i : Nat) : Int) by omega]; exact slc_from _ _]
    rw [Bool.eq_iff_iff]
    simp [v1n]
  · intro env' C h₃ tk₃ s₃ m₃ E' v x' V' S' hx' hv hpx hmx _
    obtain ⟨i, hi, rfl⟩ := rng_mem hx'
    obtain ⟨t2, rfl⟩ := hv
    replace V' : EnvOk env' [(Str.ofString ".0", .local), (Str.ofString "size", .local), (Str.ofString "len", .globalImplicit), (Str.ofString "part", .cell)] C [(Str.ofString "part", L + 1)] := V'
    have k3 := Kp.refl h₃
    repeat walk_at "st"
    rw [show slc p none (some ((0 + i : Nat) : Int)) = p.take (0 + i) from slc_to _ _]
    exact ⟨⟨_, rfl⟩, _, _, rfl, by assumption⟩
  · intro D h' tk' ys c kD hD eD ha
    have kk := Kp.trans (by assumption : Kp h₀ _) kD
    repeat walk_at "st"
    have he : ((rng 0 p.length).filter fun x => p.take (v1n x) == p.drop (p.length - v1n x)).map (fun x => V1.s (p.take (v1n x))) = (sizes p).map fun s => .s (p.take s) := by
      unfold rng sizes
      rw [List.filter_map, List.map_map]
      have e1 : ∀ i : Nat, v1n (.i ((0 + i : Nat) : Int)) = i := fun i => by simp [v1n]
      simp only [Function.comp_def, e1]
    rw [he] at ha
    have hl := Are.len ha
    have hz2 : 0 < (sizes p).length := by cases h : sizes p with | nil => rw [h] at hz; cases hz | cons => simp
    have hle : (sizes p).length ≤ p.length := by unfold sizes; exact Nat.le_trans (List.length_filter_le _ _) (by simp)
    simp only [Array.length_toList, List.length_map] at hl
    obtain ⟨v, hv, tv, ev⟩ := Are.get' ha (i := ys.size - 1) (x := .s (p.take z)) (by
      rw [List.getElem?_map, hl, ← List.getLast?_eq_getElem?, hz]; rfl)
    subst ev
    refine rItemLast (lst_is eD) (by omega) (by omega) (by simpa using hv) ?_
    exact hq _ _ _ (Kp.trans k₀ kk)

theorem border_between {bd md : List Nat} : (((List.range (md.length + 1 - bd.length)).filter fun i => (md.drop i).take bd.length == bd) = []) ↔ inf bd md = false := by
  rw [List.filter_eq_nil_iff]
  constructor
  · intro h
    rw [Bool.eq_false_iff]
    intro e
    obtain ⟨p, q, rfl⟩ := (inf_iff _ _).mp e
    refine h p.length (by simp; omega) ?_
    simp
  · intro h i hi hb
    rw [Bool.eq_false_iff] at h
    refine h ((inf_iff _ _).mpr ?_)
    rw [beq_iff_eq] at hb
    rw [← hb]
    exact (List.take_prefix _ _).isInfix.trans (List.drop_suffix _ _).isInfix
theorem between_call {Q : Value → Shared → Prop} {bd md : List Nat} (O : Okay w b) (kb : Kp b h) (hA : AOk A 2) (h1 : bd.length ≤ md.length + 1) (h2 : md.length ≤ 5)
    (hq : ∀ h' tk', Kp h h' → Q (.bool (inf bd md)) (sh s h' tk')) :
    wpAny (model prog w) A (call (.ref 170) [.str (T bd) t, .str (T md) u]) Q E (sh s h tk) := by
  have O := O.keeps kb
  refine wpAny_call (enterC [(Str.ofString "border", .str (T bd) t), (Str.ofString "middle", .str (T md) u)] [] O hA (Kp.refl _) (by simp) (by simp) (by simp) (by with_unfolding_all rfl) (by with_unfolding_all rfl) (by with_unfolding_all rfl) rfl
    rfl rfl (kinds_of (by kinds_ok)) (by decide) rfl rfl rfl rfl rfl fun env h₀ tk _ _ V S k₀ hA' => ?_)
  have k : Kp h₀ h₀ := Kp.refl _
  generalize hLdef : h.objs.size = L at V S
  replace V : EnvOk env [(Str.ofString "border", .cell), (Str.ofString "middle", .cell), (Str.ofString "range", .globalImplicit), (Str.ofString "len", .globalImplicit)] L [(Str.ofString "middle", L + 1 + 1), (Str.ofString "border", L + 1)] := V
  replace S : St h L [(Str.ofString "middle", L + 1 + 1), (Str.ofString "border", L + 1)] h₀ (fun _ => none) (fun y => if y = Str.ofString "middle" then some (.str (T md) u) else if y = Str.ofString "border" then some (.str (T bd) t) else none) [] := S
  have hl1 : bd.length ≤ 1000 := by omega
  have hl2 : md.length ≤ 1000 := by omega
  repeat walk_at "st"
  refine rComp [(Str.ofString "middle", L + 1 + 1), (Str.ofString "border", L + 1)] (fun x => (md.drop (v1n x)).take bd.length == bd) (fun x => x) (by rw [V.closure]; rfl) (by decide) rfl (by decide) rfl ?_
  repeat walk_at "st"
  refine rIterRange1 (n := md.length + 1 - bd.length) (by omega) hA'.hd (by omega) fun I h2 tk2 k2 hI Wk h0 => ?_
  refine compGo _ _ V (by assumption) S hI k2 Wk h0 (by simpa using (RgSt.obj h0).elim fun _ e => Heap.lt_size e) (by rw [rng_len]; omega) (by rfl) (by simp) (by simp) (by simp; decide) ?_ ?_ ?_
  · intro env' C h₃ tk₃ s₃ m₃ E' v x' V' S' hx' hv hmx _
    obtain ⟨i, hi, rfl⟩ := rng_mem hx'
    obtain ⟨t2, rfl⟩ := hv
    replace V' : EnvOk env' [(Str.ofString ".0", .local), (Str.ofString "place", .local), (Str.ofString "len", .globalImplicit), (Str.ofString "border", .cell), (Str.ofString "middle", .cell)] C [(Str.ofString "middle", L + 1 + 1), (Str.ofString "border", L + 1)] := V'
    have k3 := Kp.refl h₃
    refine forIn_one_true ?_
    repeat walk_at "st"
    refine ⟨?_, _, _, rfl, by assumption⟩
    rw [slc_sub (0 + i) bd.length (by omega) (by omega), Bool.eq_iff_iff]
    simp [v1n]
  · intro env' C h₃ tk₃ s₃ m₃ E' v x' V' S' hx' hv hpx hmx _
    obtain ⟨i, hi, rfl⟩ := rng_mem hx'
    obtain ⟨t2, rfl⟩ := hv
    replace V' : EnvOk env' [(Str.ofString ".0", .local), (Str.ofString "place", .local), (Str.ofString "len", .globalImplicit), (Str.ofString "border", .cell), (Str.ofString "middle", .cell)] C [(Str.ofString "middle", L + 1 + 1), (Str.ofString "border", L + 1)] := V'
    have k3 := Kp.refl h₃
    repeat walk_at "st"
    exact ⟨⟨_, rfl⟩, _, _, rfl, by assumption⟩
  · intro D h' tk' ys c kD hD eD ha
    have kk := Kp.trans (by assumption : Kp h₀ _) kD
    repeat walk_at "st"
    refine rNewList (by simp) fun D2 g2 kg2 hD2 eD2 => ?_
    refine rNeL 0 (lst_is (kg2 _ _ eD)) ha (lst_is eD2) (ys := []) .nil (hA'.less (by omega)) ?_ (by simp) ?_ (by simp) ?_
    · intro x hx
      rw [List.map_id'] at hx
      obtain ⟨i, _, rfl⟩ := rng_mem (List.mem_filter.mp hx).1
      rfl
    · intro x hx
      rw [List.map_id'] at hx
      obtain ⟨i, _, rfl⟩ := rng_mem (List.mem_filter.mp hx).1
      rfl
    · have he : (!eqV (((rng 0 (md.length + 1 - bd.length)).filter fun x => (md.drop (v1n x)).take bd.length == bd).map (fun x => x)) []) = inf bd md := by
        rw [Bool.eq_iff_iff, Bool.not_eq_true', ← Bool.not_eq_true, eqV_iff, List.map_eq_nil_iff, rng, List.filter_map, List.map_eq_nil_iff]
        have e1 : ∀ i : Nat, v1n (.i ((0 + i : Nat) : Int)) = i := fun i => by simp [v1n]
        simp only [Function.comp_def, e1]
        rw [border_between]
        simp
      rw [he]
      exact hq _ _ (Kp.trans k₀ (Kp.trans kk kg2))
end
end

section
open PySem PySem.W PyProof.Rows PySem.Calls PySem.SeqAt
set_option maxRecDepth 100000
theorem gb_keyError (P : Params) : nsIn (hd.heap_39 P) mainGlobals "KeyError" = some none := by with_unfolding_all rfl
section
variable {prog : Program} {w : World} {A : Around} {E : Value → Shared → Prop} {s : Shared} {h : Heap} {tk : Nat} {env : Env} {names : List (Str × NameKind)} {L : Addr} {cl : List (Str × Addr)}
  {b g : Heap} {m cm : Str → Option Value} {vol : List (Addr × Obj)} {d : Nat} {t u : Tok} {l x y p : List Nat}

/-- entering a def of the top, which may raise -/
theorem enterX {R : Result → Shared → Prop} {a : Addr} {fd : FuncData} {body : List Stmt} {args : Args} (binds : List (Str × Value)) (vol : List (Addr × Obj)) {b : Heap} {d : Nat}
    (O : Okay w b) (hA : AOk A (d + 1)) (hb : Kp b h) (hsz : b.objs.size ≤ h.objs.size) (hv : ∀ p ∈ vol, h.get? p.1 = some p.2) (hnd : (vol.map (·.1)).Nodup)
    (hf : (hd.heap_39 w.params).lookup a = some (fnObj w.params a)) (hdt : (fnObj w.params a).data = .func fd)
    (hcd : codeIn (hd.heap_39 w.params) fd.code fd.qualname = true) (hbody : fd.body = .stmts body) (hbind : BindsTo (sh s h tk) fd args binds)
    (hcell : ∀ x ∈ fd.scope.names, x.2 ≠ .cell) (hloc : (binds.all fun x => decide (fd.scope.names.lookup x.1 = some .local)) = true)
    (hco : fd.scope.isCoroutine = false) (hgen : fd.scope.isGenerator = false) (hk : fd.scope.kind = .function) (hgl : fd.globals = mainGlobals) (hbi : fd.builtins = builtinsNs)
    (hq : ∀ env h₀ tk, env.frame = some h.objs.size → EnvOk env fd.scope.names h.objs.size fd.closure → St b h.objs.size [] h₀ (fun x => binds.reverse.lookup x) (fun _ => none) vol → Kp h h₀ → AOk (A.deeper env) d →
      wpAny (model prog w) (A.deeper env) (execs body env) (fun f s' => R (.ok (.ret (match f with | .ret v => v | _ => .none))) s')
        (fun e s' => wpAny (model prog w) (A.deeper env) (leaving env e) (fun _ s'' => R (.error e) s'') (fun e' s'' => R (.error e') s'') s') (sh s h₀ tk)) :
    codeAny (model prog w) A (.call (.ref a) args) R (sh s h tk) := by
  have O' : Okay w h := O.keeps hb
  have fresh : ∀ (x : Heap), Kp x h → x.get? h.objs.size = none := fun x hx => by
    cases q : x.get? h.objs.size with
    | none => rfl
    | some o => exact absurd (Heap.lt_size (hx _ _ q)) (Nat.lt_irrefl _)
  refine codeAny_call_def (by have := hA.dp; unfold recursionLimit; omega) (O'.K _ _ hf) hdt O'.lim (codeRec_of O'.K hcd) hbody hbind hcell (locs hloc) (fun h₀ hn hk₀ => ?_) hco hgen hk
  have S : St b h.objs.size [] h₀ (fun x => binds.reverse.lookup x) (fun _ => none) vol := {
    ns := hn
    keep := fun x o e => hk₀ _ _ (hb _ _ e)
    cell := fun n c hc => by cases hc
    vols := fun p hp => hk₀ _ _ (hv p hp)
    sz := hsz
    apart := List.Pairwise.nil
    cL := fun n c hc => by cases hc
    vL := fun p hp q => by
      have q2 := hv p hp
      rw [q, fresh _ (Kp.refl _)] at q2; cases q2
    vc := fun p hp n c hc => by cases hc
    nd := hnd
    ck := List.nodup_nil }
  exact hq _ h₀ _ rfl ⟨rfl, hk, rfl, hgl, hbi, rfl⟩ S hk₀ (hA.deeper _)

theorem ns_obj {a : Addr} (hn : h.Ns a m) : ∃ o, h.get? a = some o ∧ ∀ vs, o.data ≠ .fields vs := by
  obtain ⟨o, es, ep, e, dd, _⟩ := hn
  exact ⟨o, e, fun vs q => by rw [dd] at q; cases q⟩

theorem gv_miss {Q : Value → Shared → Prop} {x D P : Addr} {kvs : List (Str × Value)} {outer : List Env} {base : Heap} (O : Okay w b) (kb : Kp b h) (hA : AOk A 2) (hfr : A.frames = some outer) (hff : h.FunFrames base outer) (hbs : base.StaysIn h)
    (hd : h.DictOf (PySem.strKind prog w) P kvs) (hmiss : valueAt kvs (T y) = none) (hsys : (P == sysModules) = false)
    (hE : ∀ e a0 h' tk', Heap.FlyingW base outer e (.type "KeyError") a0 h' → h.UpToSlots h' → E (.ref e) (sh s h' tk')) :
    wpAny (model prog w) A (call (.ref 111) [.ref x, .str (T y) t, .ref D, .ref P]) Q E (sh s h tk) := by
  have O := O.keeps kb
  refine wpAny_call (enterX [(Str.ofString "self", .ref x), (Str.ofString "key", .str (T y) t), (Str.ofString "args", .ref D), (Str.ofString "kwargs", .ref P)] [] O hA (Kp.refl _) (by simp) (by simp) (by simp) (by with_unfolding_all rfl) (by with_unfolding_all rfl) (by with_unfolding_all rfl) rfl
    (BindsTo.of_eq rfl) (by decide) (by rfl) rfl rfl rfl rfl rfl fun env h₀ tk hframe V S k₀ hA' => ?_)
  have k : Kp h₀ h₀ := Kp.refl _
  repeat walk_at "st"
  refine IsiPair.str_int ?_
  repeat walk_at "st"
  have hd' : h₀.DictOf (PySem.strKind prog w) P kvs := let ⟨o, es, ep, e, r⟩ := hd; ⟨o, es, ep, k₀ _ _ e, r⟩
  refine tail_any (s := sh _ h₀ _) (Heap.DictOf.typeIs (s := sh s h₀ tk) hd') slot_dict_getitem.lookup (wpAny_getItem_missing_of (s := sh _ h₀ _) (knd := PySem.strKind prog w) (k := T y) (isStr_self _ _) hsys hA'.hd hd'.mapOf hmiss fun h' e hx => ?_) (by with_unfolding_all rfl)
  have hns := S.ns
  obtain ⟨oL, hoL, hdL⟩ := ns_obj hns
  have kh : Kp h₀ h' := hx.keeps
  have hbh : base.StaysIn h₀ := fun a o q => k₀ _ _ (hbs a o q)
  obtain ⟨ob, tp, he, hcls, hd⟩ := hx.there
  have hen : base.get? e = none := by
    cases q : base.get? e with
    | none => rfl
    | some o => have := hbh _ _ q; rw [hx.new] at this; cases this
  refine wpAny_leaving_firstW (a0 := tp) (Around.frames_deeper hfr) (base := base) ⟨by rw [V.kind]; decide, ⟨_, oL, hframe, hbs.fresh, kh _ _ hoL, hdL⟩, hff.of_keeps fun b o hb _ => ⟨o, kh _ _ (k₀ _ _ hb), rfl⟩⟩ hframe he (fun b o hb => kh _ _ (hbh b o hb)) hen hd rfl rfl fun h'' hL => ?_
  obtain ⟨k1, ⟨_, _, k2⟩, k3, k4⟩ := hL
  exact hE e tp h'' _ ⟨k1, hen, k2, by rw [← hcls]; exact k3⟩ ((Heap.UpToSlots.of_keeps fun b o q => kh _ _ (k₀ b o q)).trans k4)
end
end

section
open PySem PySem.W PyProof.Rows PySem.Calls PySem.SeqAt
set_option maxRecDepth 100000
section
variable {prog : Program} {w : World} {A : Around} {E : Value → Shared → Prop} {s : Shared} {h : Heap} {tk : Nat} {env : Env} {names : List (Str × NameKind)} {L : Addr} {cl : List (Str × Addr)}
  {b g : Heap} {m cm : Str → Option Value} {vol : List (Addr × Obj)} {d : Nat} {t u : Tok} {l x y p : List Nat}

theorem lacks_call {Q : Value → Shared → Prop} {x dx D P L0 : Addr} {kvs : List (Str × Value)} {envL : Env} {m0 : Str → Option Value} (O : Okay w b) (kb : Kp b h) (hbL : b.get? L0 = none) (hA : AOk A 4) (hfr : A.frames = some [envL]) (hfL : envL.frame = some L0) (hkL : envL.scope.kind = .function)
    (hn0 : h.Ns L0 m0) (hx : h.get? x = some (instObj 149 dx)) (hdx : h.get? dx = some emptyDict) (nx : x ≠ L0) (ndx : dx ≠ L0) (nP : P ≠ L0)
    (hd : h.DictOf (PySem.strKind prog w) P kvs) (hmiss : valueAt kvs (T y) = none) (hsys : (P == sysModules) = false)
    (hq : ∀ h' tk', Heap.ExtBut L0 h h' → h'.Ns L0 m0 → Q (.bool true) (sh s h' tk')) :
    wpAny (model prog w) A (call (.ref 177) [.ref x, .str (T y) t, .ref D, .ref P]) Q E (sh s h tk) := by
  have O := O.hide kb hbL
  refine wpAny_call (enterX [(Str.ofString "finder", .ref x), (Str.ofString "key", .str (T y) t), (Str.ofString "weights", .ref D), (Str.ofString "places", .ref P)] [] O hA (kp_hide h L0) (Nat.le_of_eq (Heap.hide_size h L0)) (by simp) (by simp) (by with_unfolding_all rfl) (by with_unfolding_all rfl) (by with_unfolding_all rfl) rfl
    (BindsTo.of_eq rfl) (by decide) (by rfl) rfl rfl rfl rfl rfl fun env h₀ tk hframe V S k₀ hA' => ?_)
  have k : Kp h₀ h₀ := Kp.refl _
  generalize hLdef : h.objs.size = L at V S hframe
  have hLn : h.get? L = none := by rw [← hLdef]; exact Heap.get?_none_of_le (Nat.le_refl _)
  have hL0 : L ≠ L0 := by
    obtain ⟨o, e, _⟩ := ns_obj hn0
    rintro rfl; rw [hLn] at e; cases e
  refine wpAny_execs_cons (wpAny_Try_except ?_)
  repeat walk_at "st"
  refine fmt_get (O.keeps S.keep) k (k₀ _ _ hx) (k₀ _ _ hdx) ?_
  refine callWith_F (first := [.ref x]) (fnAtK (O.keeps S.keep) (by with_unfolding_all rfl)) ?_ (by rfl) (by rfl)
  repeat walk_at "st"
  have hn0' : h₀.Ns L0 m0 := hn0.keeps k₀
  obtain ⟨oL, hoL, hdL⟩ := ns_obj S.ns
  obtain ⟨o0, ho0, hd0⟩ := ns_obj hn0'
  have hbs : ((h₀.hide L).hide L0).StaysIn h₀ := fun a o e => Heap.of_hide (Heap.of_hide e)
  have hn1 : ((h₀.hide L).hide L0).get? L = none := by
    cases q : ((h₀.hide L).hide L0).get? L with
    | none => rfl
    | some o => have := Heap.of_hide q; rw [Heap.hide_self] at this; cases this
  have hf2 : (A.deeper env).frames = some [env, envL] := Around.frames_deeper hfr
  have hfun : h₀.FunFrames ((h₀.hide L).hide L0) [env, envL] := ⟨by rw [V.kind]; decide, ⟨L, oL, hframe, hn1, hoL, hdL⟩, by rw [hkL]; decide, ⟨L0, o0, hfL, Heap.hide_self _ _, ho0, hd0⟩, trivial⟩
  have hd' : h₀.DictOf (PySem.strKind prog w) P kvs := let ⟨o, es, ep, e, r⟩ := hd; ⟨o, es, ep, k₀ _ _ e, r⟩
  refine gv_miss (O.keeps S.keep) k (hA'.less (by omega)) hf2 hfun hbs hd' hmiss hsys fun e a0 h1 tk1 hfl1 u1 => ?_
  refine wpAny_looks_onW hf2 hframe hfl1 fun h2 hh2 u2 => ?_
  refine wpAny_landsW hh2 fun h3 hh3 u3 => ?_
  have u03 := (u1.trans u2).trans u3
  obtain ⟨ob, hob, hobc⟩ := hh3.there
  have kept : ∀ {h' : Heap}, ((h₀.hide L).hide L0).StaysIn h' → h₀.UpToSlots h' → ∀ a o, a ≠ L0 → h.get? a = some o → h'.get? a = some o := fun st _ a o ha e =>
    st a o ((Heap.hide_ne _ ha).trans ((Heap.hide_ne _ (fun q => by rw [q, hLn] at e; cases e)).trans (k₀ _ _ e)))
  have stS : ∀ {h' : Heap}, ((h₀.hide L).hide L0).StaysIn h' → h₀.UpToSlots h' → St (h.hide L0) L [] h' (fun x_1 => List.lookup x_1 [(Str.ofString "finder", Value.ref x), (Str.ofString "key", .str (T y) t), (Str.ofString "weights", .ref D), (Str.ofString "places", .ref P)].reverse) (fun _ => none) [] := fun {h'} st up => {
    ns := up.ns S.ns
    keep := fun a o e => kept st up a o (fun q => by rw [q, Heap.hide_self] at e; cases e) (Heap.of_hide e)
    cell := fun n c hc => by cases hc
    vols := fun p hp => by cases hp
    sz := S.sz
    apart := S.apart
    cL := S.cL
    vL := fun p hp => by cases hp
    vc := fun p hp => by cases hp
    nd := by simp
    ck := S.ck }
  have S3 := stS hh3.1 u03
  have k3 := Kp.refl h3
  refine wpAny_handleBy_builtin (X := "KeyError") (T := "KeyError") (b := true) kr_isExc_KeyError kr_notTuple_KeyError (by rw [isSubtype_type]; kernel_rfl) ?_
  refine nB V k3 S3 O rfl (gb_keyError _) Boot.«KeyError» ⟨rfl, ⟨ob, hob, hobc⟩, ?_⟩
  refine lands_againW hh3 fun h4 hh4 u4 => ?_
  refine wpAny_mono (E := fun _ _ => False) ?_ (fun _ _ z => z) (fun _ _ z => z.elim)
  refine wpAny_execs_cons (wpAny_Return_some (wpAny_Constant_bool ?_))
  exact hq _ _ (fun a o ha e => kept hh4.1 (u03.trans u4) a o ha e) ((u03.trans u4).ns hn0')
end
end

section
open PySem PySem.W PyProof.Rows PySem.Calls PySem.SeqAt
set_option maxRecDepth 100000
noncomputable def lawBody : List Stmt := defBody (topDef 17)
noncomputable def lawScope : Scope := defScope (topDef 17)
noncomputable abbrev lawNames : List (Str × NameKind) := [(Str.ofString "script", .local), (Str.ofString "heaps", .cell), (Str.ofString "place", .local), (Str.ofString "signs", .cell), (Str.ofString "width", .cell), (Str.ofString "k", .cell), (Str.ofString "parts", .local), (Str.ofString "part", .local), (Str.ofString "writings", .cell), (Str.ofString "closings", .cell), (Str.ofString "names", .cell), (Str.ofString "alone", .local), (Str.ofString "places", .cell), (Str.ofString "weights", .cell), (Str.ofString "finder", .cell), (Str.ofString "sums", .local), (Str.ofString "held", .cell), (Str.ofString "figures", .cell), (Str.ofString "left", .local), (Str.ofString "number", .local), (Str.ofString "border", .local), (Str.ofString "range", .globalImplicit), (Str.ofString "len", .globalImplicit), (Str.ofString "chr", .globalImplicit), (Str.ofString "_law_parts", .globalImplicit), (Str.ofString "parse257", .globalImplicit), (Str.ofString "Formatter", .globalImplicit), (Str.ofString "_law_lacks", .globalImplicit), (Str.ofString "_digits2int", .globalImplicit), (Str.ofString "sum", .globalImplicit), (Str.ofString "_int2digits", .globalImplicit), (Str.ofString "_law_border", .globalImplicit), (Str.ofString "_law_between", .globalImplicit)]
noncomputable abbrev lawCl (L : Nat) : List (Str × Addr) := [(Str.ofString "figures", L + 1 + 1 + 1 + 1 + 1 + 1 + 1 + 1 + 1 + 1 + 1 + 1), (Str.ofString "held", L + 1 + 1 + 1 + 1 + 1 + 1 + 1 + 1 + 1 + 1 + 1), (Str.ofString "finder", L + 1 + 1 + 1 + 1 + 1 + 1 + 1 + 1 + 1 + 1), (Str.ofString "weights", L + 1 + 1 + 1 + 1 + 1 + 1 + 1 + 1 + 1), (Str.ofString "places", L + 1 + 1 + 1 + 1 + 1 + 1 + 1 + 1), (Str.ofString "names", L + 1 + 1 + 1 + 1 + 1 + 1 + 1), (Str.ofString "closings", L + 1 + 1 + 1 + 1 + 1 + 1), (Str.ofString "writings", L + 1 + 1 + 1 + 1 + 1), (Str.ofString "k", L + 1 + 1 + 1 + 1), (Str.ofString "width", L + 1 + 1 + 1), (Str.ofString "signs", L + 1 + 1), (Str.ofString "heaps", L + 1)]
noncomputable def isLst (o : Obj) (its : Array Value) : Prop := o.cls = .type "list" ∧ ∃ n, o.data = .seq its n
theorem isLst.list {o : Obj} {its : Array Value} {h : Heap} {a : Addr} (x : isLst o its) (e : h.get? a = some o) : h.IsList a its := ⟨o, e, x⟩
theorem isLst.lst (its : Array Value) (n : Nat) : isLst (lst its n) its := ⟨rfl, n, rfl⟩
section
variable {prog : Program} {w : World} {A : Around} {E : Value → Shared → Prop} {s : Shared} {h : Heap} {tk : Nat} {env : Env} {L : Nat}
  {b g : Heap} {m cm : Str → Option Value} {vol : List (Addr × Obj)} {d : Nat} {t u : Tok} {l x y p : List Nat} {Q : Flow → Shared → Prop}

theorem rIAdd {a c : Int} {Q : Value → Shared → Prop} (hq : ∀ t tk', Q (.int (a + c) t) (sh s h tk')) : wpAny (model prog w) A (inplaceOp .Add (.int a t) (.int c u)) Q E (sh s h tk) := PyProof.Rows.iadd_int (hq _ _)
theorem rISub {a c : Int} {Q : Value → Shared → Prop} (hq : ∀ t tk', Q (.int (a - c) t) (sh s h tk')) : wpAny (model prog w) A (inplaceOp .Sub (.int a t) (.int c u)) Q E (sh s h tk) := PyProof.Rows.isub_int (hq _ _)
theorem rGetL {l : Addr} {items : Array Value} {i : Int} {n : Nat} {x : Value} {Q : Value → Shared → Prop} (hi : i = n) (hn : n < 1000) (hl : h.IsList l items) (hx : items[n]? = some x) (hq : Q x (sh s h tk)) :
    wpAny (model prog w) A (getItem (.ref l) (.int i u)) Q E (sh s h tk) := by
  subst hi
  exact wpAny_getItem_list (s := sh s h tk) hl (by omega) (by omega) (by simpa using hx) hq
theorem rSetL {pre post : List (Addr × Obj)} {H : Addr} {oH : Obj} {items : Array Value} {i : Int} {n : Nat} {v : Value} {Q : Unit → Shared → Prop} (hi : i = n) (k : Kp g h) (S : St b L (lawCl L) g m cm (pre ++ (H, oH) :: post)) (hb : b.get? H = none)
    (hl : isLst oH items) (hn : n < items.size) (hsz : items.size ≤ 1000) (hq : ∀ h' o', isLst o' (items.setIfInBounds n v) → St b L (lawCl L) h' m cm (pre ++ (H, o') :: post) → Q () (sh s h' tk)) :
    wpAny (model prog w) A (setItem (.ref H) (.int i u) v) Q E (sh s h tk) := by
  subst hi
  have S' := S.step k
  refine wpAny_setItem_list (s := sh s h tk) (hl.list (S'.vols (H, oH) (List.mem_append_right _ (.head _)))) (by omega) (by omega) (by omega) fun h' hl' hs => ?_
  obtain ⟨o', e, c⟩ := hl'
  simp only [Int.toNat_natCast] at c
  exact hq h' o' c (S'.setV hb hs e)
theorem are_set {vs : List Value} {xs : List V1} {v : Value} {x : V1} (h : Are vs xs) (hx : x.is v) : ∀ n, Are (vs.set n v) (xs.set n x) := by
  induction h with
  | nil => intro n; exact .nil
  | cons h1 h2 ih => intro n; cases n with
    | zero => exact .cons hx h2
    | succ n => exact .cons h1 (ih n)

theorem segIn {M : Model} {K : Shared → Prop} {st : Stmt} {rest : List Stmt} (hnext : ∀ s', K s' → wpAny M A (execs rest env) Q E s') (h : wpAny M A (exec st env) (fun f s' => match f with | .next => K s' | f => Q f s') E s) :
    wpAny M A (execs (st :: rest) env) Q E s := by
  refine wpAny_execs_cons (wpAny_mono h (fun f s' z => ?_) fun _ _ e => e)
  cases f with
  | next => exact hnext _ z
  | _ => exact z

theorem seg0 {K : Shared → Prop} (hn : ∀ s', K s' → wpAny (model prog w) A (execs (lawBody.drop 1) env) Q E s') (V : EnvOk env lawNames L (lawCl L)) (O : Okay w b) (S : St b L (lawCl L) h m cm vol)
    (hk : ∀ H oH its (hs : List Int) h' tk', b.get? H = none → isLst oH its → Are its.toList (hs.map .i) → hs.length = 4 → St b L (lawCl L) h' m (fun y => if y = Str.ofString "heaps" then some (.ref H) else cm y) ((H, oH) :: vol) → K (sh s h' tk')) :
    wpAny (model prog w) A (execs lawBody env) Q E (sh s h tk) := by
  have k := Kp.refl h
  refine segIn hn ?_
  repeat walk_at "st"
  refine rNewList (by simp) fun H g1 kg hH eH => ?_
  have S1 := S.addV kg hH eH
  have k1 := Kp.refl g1
  repeat walk_at "st"
  (rename St _ _ _ _ _ _ _ => S9)
  exact hk H _ _ [46, 1760009, 1, 4] _ _ (S.blt hH) (isLst.lst _ _) (.cons ⟨_, rfl⟩ (.cons ⟨_, rfl⟩ (.cons ⟨_, rfl⟩ (.cons ⟨_, rfl⟩ .nil)))) rfl S9

theorem seg1 {K : Shared → Prop} {H SC : Addr} {oH : Obj} {its sits : Array Value} {hs sc : List Int} (hn : ∀ s', K s' → wpAny (model prog w) A (execs (lawBody.drop 2) env) Q E s') (V : EnvOk env lawNames L (lawCl L)) (O : Okay w b) (hA : AOk A 1) (S : St b L (lawCl L) h m cm ((H, oH) :: vol))
    (hbH : b.get? H = none) (hH : isLst oH its) (ha : Are its.toList (hs.map .i)) (h4 : hs.length = 4) (hm : m (Str.ofString "script") = some (.ref SC)) (hc : cm (Str.ofString "heaps") = some (.ref H)) (hSC : b.IsList SC sits) (hsc : Are sits.toList (sc.map .i)) (hlen : sc.length ≤ 63)
    (hk : ∀ oH its (hs : List Int) h' tk' m', isLst oH its → Are its.toList (hs.map .i) → hs.length = 4 → St b L (lawCl L) h' m' cm ((H, oH) :: vol) → K (sh s h' tk')) :
    wpAny (model prog w) A (execs (lawBody.drop 1) env) Q E (sh s h tk) := by
  have k := Kp.refl h
  refine segIn hn ?_
  repeat walk_at "st"
  have hSC' : h.IsList SC sits := let ⟨o, e, r⟩ := hSC; ⟨o, S.keep _ _ e, r⟩
  have hsz : sits.size = sc.length := by have := Are.len hsc; simpa using this
  refine rLenL hSC' (by omega) fun t1 tk1 => ?_
  repeat walk_at "st"
  refine rIterRange1 (n := sits.size) rfl hA.hd (by omega) fun I h2 tk2 k2 hI Wk h0 => ?_
  refine forGo (fun i h m cm' vol' => ∃ oH its, ∃ hs : List Int, vol' = (H, oH) :: vol ∧ isLst oH its ∧ Are its.toList (hs.map .i) ∧ hs.length = 4 ∧ m (Str.ofString "script") = some (.ref SC) ∧ cm' = cm)
    k S hI k2 Wk h0 (fun _ _ => RgSt.obj) ⟨oH, its, hs, rfl, hH, ha, h4, hm, rfl⟩ (fun _ _ _ _ _ _ z _ _ => z) ?_ ?_
  · intro i x v o h tk m cm' vol' hx hv hJ S Q' E' hQ'
    obtain ⟨oH, its, hs, rfl, hH, ha, h4, hm, rfl⟩ := hJ
    obtain ⟨hi, rfl⟩ := rng_inv hx
    obtain ⟨t2, rfl⟩ := hv
    have k := Kp.refl h
    repeat walk_at "st"
    refine rMod (by decide) fun t3 tk3 => ?_
    (rename St _ _ _ _ _ _ _ => S2)
    (rename Kp _ _ => k3)
    have hmod : ((0 + i : Nat) : Int).fmod 4 = ((i % 4 : Nat) : Int) := by
      rw [Int.fmod_eq_emod_of_nonneg _ (by decide)]; simp
    have hi4 : i % 4 < hs.length := by omega
    have hits : its.size = hs.length := by have := Are.len ha; simpa using this
    obtain ⟨v, hv, t4, ev⟩ := Are.get' ha (i := i % 4) (x := .i hs[i % 4]) (by rw [List.getElem?_map, List.getElem?_eq_getElem hi4]; rfl)
    subst ev
    have hvH := S2.vols (H, oH) (.tail _ (.head _))
    refine rGetL hmod (by omega) (hH.list (k3 _ _ hvH)) (by simpa using hv) ?_
    repeat walk_at "st"
    have hi63 : i < sc.length := by omega
    obtain ⟨v2, hv2, t5, ev2⟩ := Are.get' hsc (i := i) (x := .i sc[i]) (by rw [List.getElem?_map, List.getElem?_eq_getElem hi63]; rfl)
    subst ev2
    have hSC2 : ∀ {h'}, Kp _ h' → h'.IsList SC sits := fun kk => let ⟨o, e, r⟩ := hSC; ⟨o, (S2.step kk).keep _ _ e, r⟩
    refine rItem (hSC2 k3) (by omega) (by omega) (by simpa using hv2) ?_
    refine rIAdd fun t6 tk6 => ?_
    refine rSetL (pre := [(I, o)]) hmod k3 S2 hbH hH (by omega) (by omega) fun h' o' hl' S3 => ?_
    refine wpAny_execs_nil ?_
    refine hQ' .next _ (TurnP.next ?_ S3)
    refine ⟨o', _, hs.set (i % 4) (hs[i % 4] + sc[i]), rfl, hl', ?_, by simpa using h4, hm, rfl⟩
    rw [Array.toList_setIfInBounds, List.map_set]
    exact are_set ha (show V1.is (.i (hs[i % 4] + sc[i])) _ from ⟨_, rfl⟩) _
  · rintro h tk m cm' vol' ⟨oH, its, hs, rfl, hH, ha, h4, hm, rfl⟩ S
    exact wpAny_execs_nil (hk _ _ _ _ _ _ hH ha h4 S)
end
end

section
open PySem PySem.W PyProof.Rows PySem.Calls PySem.SeqAt
set_option maxRecDepth 100000
noncomputable def cloOf (cl : List (Str × Addr)) : List (Str × NameKind) → List (Str × Addr) → Option (List (Str × Addr))
  | [], acc => some acc
  | (n, .free) :: r, acc => match cl.lookup n with
    | some a => cloOf cl r ((n, a) :: acc)
    | none => none
  | _ :: r, acc => cloOf cl r acc
theorem forClo {env : Env} : ∀ (names : List (Str × NameKind)) (acc clos : List (Str × Addr)), cloOf env.cells names acc = some clos →
    (forIn names acc fun (x : Str × NameKind) (cs : List (Str × Addr)) => if (x.2 == .free) = true then (do let a ← cellOf env x.1; pure (ForInStep.yield ((x.1, a) :: cs))) else (pure (ForInStep.yield cs) : Sem _)) = pure clos
  | [], acc, clos, h => by cases h; rfl
  | (n, k) :: r, acc, clos, h => by
    rw [List.forIn_cons]
    cases k with
    | free =>
      simp only [cloOf] at h
      cases q : env.cells.lookup n with
      | none => rw [q] at h; cases h
      | some a =>
        rw [q] at h
        have e : cellOf env n = pure a := by unfold cellOf; rw [q]
        simp only [beq_self_eq_true, if_true]
        rw [e]
        exact forClo r _ _ h
    | _ => exact forClo r _ _ h
theorem closure_of {scope : Scope} {env : Env} {names : List (Str × NameKind)} {L : Addr} {cl clos : List (Str × Addr)} (V : EnvOk env names L cl) (h : cloOf cl scope.names [] = some clos) : closureFor scope env = pure clos := by
  rw [← V.cells] at h
  have := forClo scope.names [] clos h
  unfold closureFor
  refine Eq.trans ?_ (congrArg (fun z => z >>= fun cs => pure cs) this)
  rfl
theorem swaps_cell {env : Env} {names : List (Str × NameKind)} {L : Addr} {cl : List (Str × Addr)} (V : EnvOk env names L cl) {y : Str} {value : Expr} {p : Pos} {ln : Nat} (hl : names.lookup y = some .cell) : swapsWith value (some (.Name y p)) ln env = pure false := by
  have hk : env.kindOf y = some .cell := (V.kindOf y).trans hl
  unfold swapsWith
  split
  · show pure _ = _
    rw [hk]
    congr 1
    simp
  · rfl
section
variable {prog : Program} {w : World} {A : Around} {E : Value → Shared → Prop} {s : Shared} {h : Heap} {tk : Nat} {env : Env} {L : Nat}
  {b g : Heap} {m cm : Str → Option Value} {vol : List (Addr × Obj)} {d : Nat} {t u : Tok} {l x y p : List Nat} {Q : Flow → Shared → Prop}

theorem getI {its : Array Value} {hs : List Int} (ha : Are its.toList (hs.map .i)) {n : Nat} (hn : n < hs.length) : ∃ t, its[n]? = some (.int hs[n] t) := by
  obtain ⟨v, hv, t, e⟩ := Are.get' ha (i := n) (x := .i hs[n]) (by rw [List.getElem?_map, List.getElem?_eq_getElem hn]; rfl)
  exact ⟨t, by rw [← e]; simpa using hv⟩
theorem getS {its : Array Value} {hs : List (List Nat)} (ha : Are its.toList (hs.map .s)) {n : Nat} (hn : n < hs.length) : ∃ t, its[n]? = some (.str (T hs[n]) t) := by
  obtain ⟨v, hv, t, e⟩ := Are.get' ha (i := n) (x := .s hs[n]) (by rw [List.getElem?_map, List.getElem?_eq_getElem hn]; rfl)
  exact ⟨t, by rw [← e]; simpa using hv⟩
theorem rChr {i : Int} {Q : Value → Shared → Prop} (h0 : 0 ≤ i) (h1 : i < 55000) (hq : ∀ t tk', Q (.str (T [i.toNat]) t) (sh s h tk')) : wpAny (model prog w) A (call (.builtin "chr") [.int i u]) Q E (sh s h tk) :=
  P.chr_of_int (by simp; omega) (hq _ _)
theorem fmod_range {a : Int} {n : Int} (hn : 0 < n) : 0 ≤ a.fmod n ∧ a.fmod n < n := ⟨Int.fmod_nonneg_of_pos _ hn, Int.fmod_lt_of_pos _ hn⟩

theorem seg2 {K : Shared → Prop} {H : Addr} {oH : Obj} {its : Array Value} {hs : List Int} (hn : ∀ s', K s' → wpAny (model prog w) A (execs (lawBody.drop 3) env) Q E s') (V : EnvOk env lawNames L (lawCl L)) (O : Okay w b) (S : St b L (lawCl L) h m cm vol)
    (hv : (H, oH) ∈ vol) (hH : isLst oH its) (ha : Are its.toList (hs.map .i)) (h4 : hs.length = 4) (hc : cm (Str.ofString "heaps") = some (.ref H))
    (hk : ∀ D its c x y h' tk', x < 55000 → y < 55000 → b.get? D = none → Are its.toList ([[34], [x], [y]].map .s) → St b L (lawCl L) h' m (fun z => if z = Str.ofString "signs" then some (.ref D) else cm z) ((D, lst its c) :: vol) → K (sh s h' tk')) :
    wpAny (model prog w) A (execs (lawBody.drop 2) env) Q E (sh s h tk) := by
  have k := Kp.refl h
  refine segIn hn ?_
  have hl := hH.list (S.vols _ hv)
  obtain ⟨t1, e1⟩ := getI ha (n := 1) (by omega)
  repeat walk_at "st"
  refine rItem hl (by decide) (by decide) (by simpa using e1) ?_
  repeat walk_at "st"
  refine rMod (by decide) fun t2 tk2 => ?_
  repeat walk_at "st"
  refine rChr (fmod_range (by decide)).1 (fmod_range (by decide)).2 fun t3 tk3 => ?_
  repeat walk_at "st"
  refine rItem hl (by decide) (by decide) (by simpa using e1) ?_
  repeat walk_at "st"
  refine rDiv (by decide) (PyProof.noPylong_small (by decide)) fun t4 tk4 => ?_
  repeat walk_at "st"
  refine rMod (by decide) fun t5 tk5 => ?_
  repeat walk_at "st"
  refine rChr (fmod_range (by decide)).1 (fmod_range (by decide)).2 fun t6 tk6 => ?_
  repeat walk_at "st"
  refine rNewList (by simp) fun D g1 kg hD eD => ?_
  have S1 := S.addV kg hD eD
  have k1 := Kp.refl g1
  repeat walk_at "st"
  (rename St _ _ _ _ _ _ _ => S9)
  refine hk D _ _ (hs[1].fmod 55000).toNat ((hs[1].fdiv 55000).fmod 55000).toNat _ _ ?_ ?_ (S.blt hD) (.cons ⟨_, rfl⟩ (.cons ⟨_, rfl⟩ (.cons ⟨_, rfl⟩ .nil))) S9
  · have := fmod_range (a := hs[1]) (n := 55000) (by decide); omega
  · have := fmod_range (a := hs[1].fdiv 55000) (n := 55000) (by decide); omega

theorem seg3 {K : Shared → Prop} {H : Addr} {oH : Obj} {its : Array Value} {hs : List Int} (hn : ∀ s', K s' → wpAny (model prog w) A (execs (lawBody.drop 4) env) Q E s') (V : EnvOk env lawNames L (lawCl L)) (O : Okay w b) (S : St b L (lawCl L) h m cm vol)
    (hv : (H, oH) ∈ vol) (hH : isLst oH its) (ha : Are its.toList (hs.map .i)) (h4 : hs.length = 4) (hc : cm (Str.ofString "heaps") = some (.ref H))
    (hk : ∀ (wd : Nat) t h' tk', 4 ≤ wd → wd ≤ 123 → St b L (lawCl L) h' m (fun z => if z = Str.ofString "width" then some (.int wd t) else cm z) vol → K (sh s h' tk')) :
    wpAny (model prog w) A (execs (lawBody.drop 3) env) Q E (sh s h tk) := by
  have k := Kp.refl h
  refine segIn hn ?_
  have hl := hH.list (S.vols _ hv)
  obtain ⟨t1, e1⟩ := getI ha (n := 3) (by omega)
  repeat walk_at "st"
  refine rItem hl (by decide) (by decide) (by simpa using e1) ?_
  repeat walk_at "st"
  refine rMod (by decide) fun t2 tk2 => ?_
  have hw := fmod_range (a := hs[3]) (n := 120) (by decide)
  have ew : (4 : Int) + hs[3].fmod 120 = ((4 + (hs[3].fmod 120).toNat : Nat) : Int) := by omega
  refine rAdd fun t3 tk3 => ?_
  rw [ew]
  repeat walk_at "st"
  (rename St _ _ _ _ _ _ _ => S9)
  exact hk _ _ _ _ (by omega) (by omega) S9
end
end

section
open PySem PySem.W PyProof.Rows PySem.Calls PySem.SeqAt
set_option maxRecDepth 100000
set_option maxHeartbeats 8000000
section
variable {prog : Program} {w : World} {A : Around} {E : Value → Shared → Prop} {s : Shared} {h : Heap} {tk : Nat} {env : Env} {L : Nat}
  {b g : Heap} {m cm : Str → Option Value} {vol : List (Addr × Obj)} {d : Nat} {t u : Tok} {l x y p : List Nat} {Q : Flow → Shared → Prop}

theorem rGetJoin {pl : Sem Bool} {Q : Value × List Value → Shared → Prop} (hq : Q (.builtin "str.join", [.str (T x) t]) (sh s h tk)) :
    wpAny (model prog w) A (getMethod (.str (T x) t) (Str.ofString "join") pl) Q E (sh s h tk) := GM.join hq
theorem rJoin0 {D : Addr} {its : Array Value} {cs : List Nat} {Q : Value → Shared → Prop} (hl : h.IsList D its) (ha : Are its.toList (cs.map fun c => .s [c])) (hn : cs.length ≤ 1000) (hq : ∀ t' tk', Q (.str (T cs) t') (sh s h tk')) :
    wpAny (model prog w) A (call (.builtin "str.join") [.str (T []) t, .ref D]) Q E (sh s h tk) := by
  have h1 : Are its.toList ((cs.map fun c => [c]).map .s) := by rw [List.map_map]; exact ha
  refine join_listC (s := sh s h tk) hl (Are.strs h1) (by rw [T_len]; simp) ?_ fun t' k => ?_
  · have : ∀ cs : List Nat, ((((cs.map fun c => [c]).map T)).map (·.length)).sum = cs.length := by
      intro cs; induction cs with
      | nil => rfl
      | cons c r ih => simp only [List.map_cons, List.sum_cons, ih, T_len, List.length_cons, List.length_nil]; omega
    rw [this]; simp; omega
  · have e : Txt.join (T []) ((cs.map fun c => [c]).map T) = T cs := by
      have e1 : Txt.join (T []) ((cs.map fun c => [c]).map T) = Str.join (T []) ((cs.map fun c => [c]).map T) := beq_iff_eq.mp (join_closes rfl)
      rw [e1]
      have := join_ones cs
      rw [List.map_map]
      exact this
    rw [e]; exact hq _ _

theorem seg4 {K : Shared → Prop} {H Sg : Addr} {oH oS : Obj} {its sits : Array Value} {hs : List Int} {xx yy : Nat} (hn : ∀ s', K s' → wpAny (model prog w) A (execs (lawBody.drop 5) env) Q E s') (V : EnvOk env lawNames L (lawCl L)) (O : Okay w b) (hA : AOk A 3) (S : St b L (lawCl L) h m cm vol)
    (hv : (H, oH) ∈ vol) (hH : isLst oH its) (ha : Are its.toList (hs.map .i)) (h4 : hs.length = 4) (hc : cm (Str.ofString "heaps") = some (.ref H))
    (hv2 : (Sg, oS) ∈ vol) (hS : isLst oS sits) (hsa : Are sits.toList ([[34], [xx], [yy]].map .s)) (hx : xx < 55000) (hy : yy < 55000) (hc2 : cm (Str.ofString "signs") = some (.ref Sg))
    (hk : ∀ (name : List Nat) D its c h' tk', name.length = 5 → (∀ c ∈ name, c < 55000) → b.get? D = none → Are its.toList ((partsTo name name.length).map .s) →
      St b L (lawCl L) h' (fun z => if z = Str.ofString "parts" then some (.ref D) else m z) cm ((D, lst its c) :: vol) → K (sh s h' (tk' + 1))) :
    wpAny (model prog w) A (execs (lawBody.drop 4) env) Q E (sh s h tk) := by
  have k := Kp.refl h
  refine segIn hn ?_
  repeat walk_at "st"
  refine rGetJoin ?_
  repeat walk_at "st"
  refine rComp _ (fun _ => true) (fun x => .s [([34, xx, yy].getD (((hs.getD 0 0).fdiv (3 ^ (v1n x))).fmod 3).toNat 0)]) (closure_of V (by rfl)) (by decide) rfl (by decide) rfl ?_
  repeat walk_at "st"
  refine rIterRange1 (n := 5) rfl hA.hd (by omega) fun I h2 tk2 k2 hI Wk h0 => ?_
  refine compGo _ _ V (by assumption) S hI k2 Wk h0 (by simpa using (RgSt.obj h0).elim fun _ e => Heap.lt_size e) (by rw [rng_len]; omega) (by rfl) (by simp) (by simp) (by simp; decide) ?_ ?_ ?_
  · intro env' C h₃ tk₃ s₃ m₃ E' v x' V' S' hx' hv hmx _
    exact forIn_nil_true ⟨rfl, _, _, rfl, Kp.refl _⟩
  · intro env' C h₃ tk₃ s₃ m₃ E' v x' V' S' hx' hv hpx hmx _
    obtain ⟨i, hi, rfl⟩ := rng_mem hx'
    obtain ⟨t2, rfl⟩ := hv
    replace V' : EnvOk env' [(Str.ofString ".0", .local), (Str.ofString "k", .local), (Str.ofString "heaps", .cell), (Str.ofString "signs", .cell)] C [(Str.ofString "signs", L + 1 + 1), (Str.ofString "heaps", L + 1)] := V'
    have k3 := Kp.refl h₃
    have hl := hH.list (S'.vols _ hv)
    have hl2 := hS.list (S'.vols _ hv2)
    obtain ⟨t3, e3⟩ := getI ha (n := 0) (by omega)
    repeat walk_at "st"
    refine rItem hl (by decide) (by decide) (by simpa using e3) ?_
    repeat walk_at "st"
    refine rPow (by omega) (by omega) (by decide) fun t4 tk4 => ?_
    have h3 : ((3 : Int) ^ ((0 + i : Nat) : Int).toNat) ≠ 0 ∧ ((3 : Int) ^ ((0 + i : Nat) : Int).toNat).natAbs < 1073741824 := by
      have : i = 0 ∨ i = 1 ∨ i = 2 ∨ i = 3 ∨ i = 4 := by omega
      rcases this with rfl | rfl | rfl | rfl | rfl <;> decide
    refine rDiv h3.1 (PyProof.noPylong_small h3.2) fun t5 tk5 => ?_
    repeat walk_at "st"
    refine rMod (by decide) fun t6 tk6 => ?_
    have hm := fmod_range (a := hs[0].fdiv (3 ^ ((0 + i : Nat) : Int).toNat)) (n := 3) (by decide)
    have h0 : hs.getD 0 0 = hs[0] := by rw [List.getD_eq_getElem?_getD, List.getElem?_eq_getElem (by omega)]; rfl
    have hlt : ((hs[0].fdiv (3 ^ ((0 + i : Nat) : Int).toNat)).fmod 3).toNat < [[34], [xx], [yy]].length := by
      simp only [List.length_cons, List.length_nil]; omega
    obtain ⟨t7, e7⟩ := getS hsa hlt
    refine rItem hl2 hm.1 (by omega) e7 ?_
    refine ⟨⟨t7, ?_⟩, _, _, rfl, by assumption⟩
    rw [h0]
    show Value.str _ _ = Value.str (T [_]) _
    congr 2
    have hv1 : v1n (.i ((0 + i : Nat) : Int)) = ((0 + i : Nat) : Int).toNat := rfl
    rw [hv1]
    generalize ((hs[0].fdiv (3 ^ ((0 + i : Nat) : Int).toNat)).fmod 3).toNat = q at *
    have : q = 0 ∨ q = 1 ∨ q = 2 := by simp only [List.length_cons, List.length_nil] at hlt; omega
    rcases this with rfl | rfl | rfl <;> rfl
  · intro D h' tk' ys c kD hD eD hb
    have kk := Kp.trans (by assumption : Kp h _) kD
    have hname : ∃ name : List Nat, name.length = 5 ∧ (∀ c ∈ name, c < 55000) ∧ ((rng 0 5).filter fun _ => true).map (fun x => V1.s [([34, xx, yy].getD (((hs.getD 0 0).fdiv (3 ^ (v1n x))).fmod 3).toNat 0)]) = name.map fun c => .s [c] := by
      refine ⟨(List.range 5).map fun i => [34, xx, yy].getD (((hs.getD 0 0).fdiv (3 ^ i)).fmod 3).toNat 0, by simp, ?_, ?_⟩
      · intro c hc
        obtain ⟨i, _, rfl⟩ := List.mem_map.mp hc
        generalize (((hs.getD 0 0).fdiv (3 ^ i)).fmod 3).toNat = q
        match q with
        | 0 => show (34 : Nat) < 55000; decide
        | 1 => exact hx
        | 2 => exact hy
        | q + 3 => simp
      · have e1 : ∀ i : Nat, v1n (.i ((0 + i : Nat) : Int)) = i := fun i => by simp [v1n]
        unfold rng
        rw [List.filter_map, List.map_map, List.map_map]
        rw [List.filter_eq_self.mpr (by simp)]
        simp only [Function.comp_def, e1]
    obtain ⟨name, hn5, hnc, hne⟩ := hname
    rw [hne] at hb
    repeat walk_at "st"
    refine rJoin0 (lst_is eD) hb (by omega) fun t1 tk1 => ?_
    repeat walk_at "st"
    refine parts_call (O.keeps S.keep) kk (hA.less (by omega)) (by omega) fun D2 its2 c2 h5 tk5 k5 hD2 eD2 ha2 => ?_
    have S5 := (S.step kk).addV k5 hD2 eD2
    have k6 := Kp.refl h5
    repeat walk_at "st"
    (rename St _ _ _ _ _ _ _ => S9)
    exact hk name D2 its2 c2 _ _ hn5 hnc ((S.step kk).blt hD2) ha2 S9
end
end

local macro_rules | `(tactic| walk_at "st") => `(tactic| first
  | ((with_reducible refine' wpAny_Assign_Name ?_ ?h); (case h => refine swaps_cell (by assumption) (by rfl)))
  )


section
open PySem PySem.W PyProof.Rows PySem.Calls PySem.SeqAt
set_option maxRecDepth 100000
set_option maxHeartbeats 8000000
noncomputable def v1s : V1 → List Nat | .s l => l | _ => []
theorem dbl_len (l : List Nat) : (dbl l).length ≤ 2 * l.length := by
  induction l with
  | nil => simp [dbl]
  | cons c r ih =>
    show ((if c = 34 then [34, 34] else [c]) ++ dbl r).length ≤ _
    rw [List.length_append, List.length_cons]
    split <;> simp only [List.length_cons, List.length_nil] <;> omega
theorem dbl_lib (l : List Nat) : StrLaws.dbl 34 l = dbl l := by
  induction l with
  | nil => rfl
  | cons c r ih =>
    show _ = (if c = 34 then [34, 34] else [c]) ++ dbl r
    unfold StrLaws.dbl
    by_cases h : c = 34
    · subst h; simp [ih]
    · simp [h, ih]
section
variable {prog : Program} {w : World} {A : Around} {E : Value → Shared → Prop} {s : Shared} {h : Heap} {tk : Nat} {env : Env} {L : Nat}
  {b g : Heap} {m cm : Str → Option Value} {vol : List (Addr × Obj)} {d : Nat} {t u : Tok} {l x y p : List Nat} {Q : Flow → Shared → Prop}

theorem rSk {x : Str} {l : List Nat} {kd : Nat} {pos : Pos} {Q : Value → Shared → Prop} (hx : x = T l) (hq : Q (.str (T l) tk) (sh s h (tk + 1))) : wpAny (model prog w) A (eval (.Constant (.str x) kd pos) env) Q E (sh s h tk) := by
  subst hx; exact Calls.Constant_str hq
theorem rGetReplace {pl : Sem Bool} {Q : Value × List Value → Shared → Prop} (hq : Q (.builtin "str.replace", [.str (T x) t]) (sh s h tk)) :
    wpAny (model prog w) A (getMethod (.str (T x) t) (Str.ofString "replace") pl) Q E (sh s h tk) := GM.replace hq
theorem rReplace {Q : Value → Shared → Prop} (hl : l.length ≤ 1000) (h0 : tk ≠ 0) {tk2 : Nat} (hq : ∀ t' tk', Q (.str (T (dbl l)) t') (sh s h tk')) :
    wpAny (model prog w) A (call (.builtin "str.replace") [.str (T l) t, .str (T [34]) tk, .str (T [34, 34]) (tk + 1)]) Q E (sh s h tk2) := by
  refine SC.replaceW (s := sh s h tk2) h0 (Nat.succ_ne_zero _) (Nat.ne_of_lt (Nat.lt_succ_self _)) (by decide) (by rw [T_len]; omega) (by rw [T_len]; simp) fun t' k => ?_
  have e : Txt.replace (T l) (T [34]) (T [34, 34]) = T (dbl l) := by
    rw [replace_dbl (T l) (T [34]) (T [34, 34]) 34 rfl rfl]
    show (⟨(StrLaws.dbl 34 l).toArray⟩ : Str) = _
    rw [dbl_lib]; rfl
  rw [e]; exact hq _ _

theorem seg5 {K : Shared → Prop} {D : Addr} {its : Array Value} {c : Nat} {ps : List (List Nat)} (hn : ∀ s', K s' → wpAny (model prog w) A (execs (lawBody.drop 6) env) Q E s') (V : EnvOk env lawNames L (lawCl L)) (O : Okay w b) (hA : AOk A 3) (S : St b L (lawCl L) h m cm vol)
    (hv : (D, lst its c) ∈ vol) (ha : Are its.toList (ps.map .s)) (hm : m (Str.ofString "parts") = some (.ref D)) (hps : ∀ p ∈ ps, p.length ≤ 5) (hlen : ps.length ≤ 100)
    (hk : ∀ D its c h' tk', b.get? D = none → Are its.toList ((ps.map dbl).map .s) →
      St b L (lawCl L) h' m (fun z => if z = Str.ofString "writings" then some (.ref D) else cm z) ((D, lst its c) :: vol) → K (sh s h' tk')) :
    wpAny (model prog w) A (execs (lawBody.drop 5) env) Q E (sh s h (tk + 1)) := by
  have k := Kp.refl h
  refine segIn hn ?_
  repeat walk_at "st"
  refine rComp _ (fun _ => true) (fun x => .s (dbl (v1s x))) (closure_of V (by rfl)) (by decide) rfl (by decide) rfl ?_
  repeat walk_at "st"
  refine rIterList hA.hd (lst_is (S.vols _ hv)) ha fun I h2 k2 hI Wk h0 hfp => ?_
  refine compGo _ _ V (by assumption) S hI k2 Wk h0 hfp (by simpa using Nat.le_trans hlen (by decide)) (by rfl) (by simp) (by simp) (by simp) ?_ ?_ ?_
  · intro env' C h₃ tk₃ s₃ m₃ E' v x' V' S' hx' hv hmx _
    exact forIn_nil_true ⟨rfl, _, _, rfl, Kp.refl _⟩
  · intro env' C h₃ tk₃ s₃ m₃ E' v x' V' S' hx' hv hpx hmx htk
    obtain ⟨p, hp, rfl⟩ := List.mem_map.mp hx'
    obtain ⟨t2, rfl⟩ := hv
    replace V' : EnvOk env' [(Str.ofString ".0", .local), (Str.ofString "part", .local)] C [] := V'
    have k3 := Kp.refl h₃
    have h5 := hps p hp
    refine PyProof.Rows.MethodCall_ ?_ (by rfl)
    repeat walk_at "st"
    refine rGetReplace ?_
    refine PyProof.Rows.callWith_method1 ?_ (by rfl) (by rfl)
    refine PyProof.Rows.args_cons ?_ (by rfl)
    refine rSk lit_q ?_
    refine PyProof.Rows.args_cons ?_ (by rfl)
    refine rSk lit_qq ?_
    refine PyProof.Rows.args_nil ?_
    refine rReplace (by omega) (by omega) fun t' tk' => ?_
    exact ⟨⟨_, rfl⟩, _, _, rfl, by assumption⟩
  · intro D h' tk' ys c kD hD eD hb
    have kk := Kp.trans (by assumption : Kp h _) kD
    have S2 := S.addV kk hD eD
    have k2 := Kp.refl h'
    repeat walk_at "st"
    (rename St _ _ _ _ _ _ _ => S9)
    refine hk D _ _ _ _ (S.blt hD) ?_ S9
    rw [List.filter_eq_self.mpr (by simp), List.map_map] at hb
    rw [List.map_map]
    exact hb

theorem seg6 {K : Shared → Prop} (hn : ∀ s', K s' → wpAny (model prog w) A (execs (lawBody.drop 7) env) Q E s') (V : EnvOk env lawNames L (lawCl L)) (O : Okay w b) (S : St b L (lawCl L) h m cm vol)
    (hk : ∀ D its c h' tk', b.get? D = none → Are its.toList ([[34], [], [34, 32, 34, 120, 34]].map .s) →
      St b L (lawCl L) h' m (fun z => if z = Str.ofString "closings" then some (.ref D) else cm z) ((D, lst its c) :: vol) → K (sh s h' tk')) :
    wpAny (model prog w) A (execs (lawBody.drop 6) env) Q E (sh s h tk) := by
  have k := Kp.refl h
  refine segIn hn ?_
  repeat walk_at "st"
  refine rNewList (by simp) fun D g1 kg hD eD => ?_
  have S1 := S.addV kg hD eD
  have k1 := Kp.refl g1
  repeat walk_at "st"
  (rename St _ _ _ _ _ _ _ => S9)
  exact hk D _ _ _ _ (S.blt hD) (.cons ⟨_, rfl⟩ (.cons ⟨_, rfl⟩ (.cons ⟨_, rfl⟩ .nil))) S9
end
end

section
open PySem PySem.W PyProof.Rows PySem.Calls PySem.SeqAt
set_option maxRecDepth 100000
set_option maxHeartbeats 8000000
theorem und_closing {n : Nat} {cl : List Nat} (h : [[34], [], [34, 32, 34, 120, 34]][n]? = some cl) : und cl = [] ∧ cl.length ≤ 5 := by
  match n with
  | 0 => cases h; exact ⟨by simp [und], by decide⟩
  | 1 => cases h; exact ⟨rfl, by decide⟩
  | 2 => cases h; exact ⟨by simp [und], by decide⟩
  | n + 3 => simp at h
theorem kind_s (ps : List (List Nat)) : ∀ x ∈ ps.map V1.s, x.kind = 1 := fun x hx => by obtain ⟨p, _, rfl⟩ := List.mem_map.mp hx; rfl
theorem ok_s {ps : List (List Nat)} (h : ∀ p ∈ ps, ∀ c ∈ p, c < 55000) : ∀ x ∈ ps.map V1.s, x.ok = true := fun x hx => by
  obtain ⟨p, hp, rfl⟩ := List.mem_map.mp hx
  simp only [V1.ok, List.all_eq_true, decide_eq_true_eq]
  intro c hc
  exact Nat.lt_of_lt_of_le (h p hp c hc) (by decide)
section
variable {prog : Program} {w : World} {A : Around} {E : Value → Shared → Prop} {s : Shared} {h : Heap} {tk : Nat} {env : Env} {L : Nat}
  {b g : Heap} {m cm : Str → Option Value} {vol : List (Addr × Obj)} {d : Nat} {t u : Tok} {l x y p : List Nat} {Q : Flow → Shared → Prop}

theorem hapOf {cl : List (Str × Addr)} {clos : List (Str × Addr)} (S : St b L cl h m cm vol) (hsub : ∀ p ∈ clos, p ∈ cl) (hck : (clos.map (·.1)).Nodup) : clos.Pairwise fun x y => x.2 ≠ y.2 := by
  have h1 : clos.Pairwise fun x y => x.1 ≠ y.1 := List.pairwise_map.mp hck
  exact h1.imp_of_mem fun {x y} hx hy hne e => hne (name_of_addr S.apart (hsub _ hx) (show (y.1, x.2) ∈ cl from e ▸ hsub _ hy))
theorem seg7 {K : Shared → Prop} {D Wr C H : Addr} {oH : Obj} {its wits cits hits : Array Value} {c cw cc : Nat} {ps : List (List Nat)} {hs : List Int} (hn : ∀ s', K s' → wpAny (model prog w) A (execs (lawBody.drop 8) env) Q E s') (V : EnvOk env lawNames L (lawCl L)) (O : Okay w b) (hA : AOk A 3) (S : St b L (lawCl L) h m cm vol)
    (hv : (D, lst its c) ∈ vol) (ha : Are its.toList (ps.map .s)) (hm : m (Str.ofString "parts") = some (.ref D)) (hps : ∀ p ∈ ps, p.length ≤ 5) (hlen : ps.length ≤ 100)
    (hvw : (Wr, lst wits cw) ∈ vol) (haw : Are wits.toList ((ps.map dbl).map .s)) (hcw : cm (Str.ofString "writings") = some (.ref Wr))
    (hvc : (C, lst cits cc) ∈ vol) (hac : Are cits.toList ([[34], [], [34, 32, 34, 120, 34]].map .s)) (hcc : cm (Str.ofString "closings") = some (.ref C))
    (hvH : (H, oH) ∈ vol) (hH : isLst oH hits) (haH : Are hits.toList (hs.map .i)) (h4 : hs.length = 4) (hcH : cm (Str.ofString "heaps") = some (.ref H))
    (hk : ∀ D its c h' tk', b.get? D = none → Are its.toList (ps.map .s) →
      St b L (lawCl L) h' m (fun z => if z = Str.ofString "names" then some (.ref D) else cm z) ((D, lst its c) :: vol) → K (sh s h' tk')) :
    wpAny (model prog w) A (execs (lawBody.drop 7) env) Q E (sh s h tk) := by
  have k := Kp.refl h
  have hsz : its.size = ps.length := by have := Are.len ha; simpa using this
  refine segIn hn ?_
  repeat walk_at "st"
  refine rComp _ (fun _ => true) (fun x => .s (ps.getD (v1n x) [])) (closure_of V (by rfl)) (by decide) rfl (by decide) rfl ?_
  repeat walk_at "st"
  refine rLenL (lst_is (S.vols _ hv)) (by omega) fun t1 tk1 => ?_
  repeat walk_at "st"
  refine rIterRange1 (n := ps.length) (by omega) hA.hd (by omega) fun I h2 tk2 k2 hI Wk h0 => ?_
  refine compGo _ _ V (by assumption) S hI k2 Wk h0 (by simpa using (RgSt.obj h0).elim fun _ e => Heap.lt_size e) (by rw [rng_len]; omega) (by rfl) (by simp) (hapOf S (by simp) (by simp; decide)) (by simp; decide) ?_ ?_ ?_
  · intro env' C h₃ tk₃ s₃ m₃ E' v x' V' S' hx' hv hmx _
    exact forIn_nil_true ⟨rfl, _, _, rfl, Kp.refl _⟩
  · intro env' C0 h₃ tk₃ s₃ m₃ E' v x' V' S' hx' hv hpx hmx _
    obtain ⟨i, hi, rfl⟩ := rng_mem hx'
    obtain ⟨t2, rfl⟩ := hv
    replace V' : EnvOk env' [(Str.ofString ".0", .local), (Str.ofString "k", .local), (Str.ofString "parse257", .globalImplicit), (Str.ofString "closings", .cell), (Str.ofString "heaps", .cell), (Str.ofString "writings", .cell)] C0 [(Str.ofString "writings", L + 1 + 1 + 1 + 1 + 1), (Str.ofString "heaps", L + 1), (Str.ofString "closings", L + 1 + 1 + 1 + 1 + 1 + 1)] := V'
    have k3 := Kp.refl h₃
    obtain ⟨t3, e3⟩ := getI haH (n := 3) (by omega)
    obtain ⟨t4, e4⟩ := getS haw (n := i) (by simpa using hi)
    rw [List.getElem_map] at e4
    have hp5 := hps _ (List.getElem_mem hi)
    have hd := dbl_len ps[i]
    repeat walk_at "st"
    refine rItem (lst_is (S'.vols _ hvw)) (by omega) (by omega) (by simpa using e4) ?_
    refine rAddS (by simp; omega) fun t5 tk5 => ?_
    repeat walk_at "st"
    refine rItem (hH.list (S'.vols _ hvH)) (by decide) (by decide) (by simpa using e3) ?_
    repeat walk_at "st"
    refine rDiv (by decide) (PyProof.noPylong_small (by decide)) fun t6 tk6 => ?_
    repeat walk_at "st"
    refine rMod (by decide) fun t7 tk7 => ?_
    have hr := fmod_range (a := hs[3].fdiv 120 + ((0 + i : Nat) : Int)) (n := 3) (by decide)
    have hlt : ((hs[3].fdiv 120 + ((0 + i : Nat) : Int)).fmod 3).toNat < [[34], [], [34, 32, 34, 120, 34]].length := by simp only [List.length_cons, List.length_nil]; omega
    obtain ⟨t8, e8⟩ := getS hac hlt
    have hcl := und_closing (List.getElem?_eq_getElem hlt)
    refine rItem (lst_is (S'.vols _ hvc)) hr.1 (by omega) e8 ?_
    generalize [[34], [], [34, 32, 34, 120, 34]][((hs[3].fdiv 120 + ((0 + i : Nat) : Int)).fmod 3).toNat] = cl at *
    refine rAddS (by simp; omega) fun t9 tk9 => ?_
    repeat walk_at "st"
    rw [show [50, 53, 55, 32, 34] ++ dbl ps[i] ++ cl = 50 :: 53 :: 55 :: 32 :: 34 :: (dbl ps[i] ++ cl) by simp]
    refine p257_q (O.keeps S'.keep) k3 (hA.less (by omega)) (by simp; omega) fun t10 h10 tk10 k10 => ?_
    rw [und_dbl hcl.1]
    refine ⟨⟨t10, ?_⟩, _, _, rfl, k10⟩
    have hv1 : v1n (.i ((0 + i : Nat) : Int)) = i := by simp [v1n]
    show Value.str (T ps[i]) t10 = Value.str (T (ps.getD (v1n (.i ((0 + i : Nat) : Int))) [])) t10
    rw [hv1, List.getD_eq_getElem?_getD, List.getElem?_eq_getElem hi]; rfl
  · intro D h' tk' ys c kD hD eD hb
    have kk := Kp.trans (by assumption : Kp h _) kD
    have S2 := S.addV kk hD eD
    have k2 := Kp.refl h'
    repeat walk_at "st"
    (rename St _ _ _ _ _ _ _ => S9)
    refine hk D _ _ _ _ (S.blt hD) ?_ S9
    have e1 : ∀ i : Nat, v1n (.i ((0 + i : Nat) : Int)) = i := fun i => by simp [v1n]
    rw [List.filter_eq_self.mpr (by simp), rng, List.map_map] at hb
    have e2 : (List.range ps.length).map ((fun x => V1.s (ps.getD (v1n x) [])) ∘ fun i => V1.i ((0 + i : Nat) : Int)) = ps.map .s := by
      apply List.ext_getElem?
      intro n
      simp only [List.getElem?_map, Function.comp_apply, e1]
      by_cases hn : n < ps.length
      · rw [List.getElem?_range hn, List.getElem?_eq_getElem hn]
        simp only [Option.map_some, e1]
        simp [v1n, List.getD_eq_getElem?_getD, List.getElem?_eq_getElem hn]
      · rw [List.getElem?_eq_none (by simpa using hn), List.getElem?_eq_none (by omega)]; rfl
    rw [e2] at hb
    exact hb
end
end

section
open PySem PySem.W PyProof.Rows PySem.Calls PySem.SeqAt
set_option maxRecDepth 100000
set_option maxHeartbeats 8000000
section
variable {prog : Program} {w : World} {A : Around} {E : Value → Shared → Prop} {s : Shared} {h : Heap} {tk : Nat} {env : Env} {L : Nat}
  {b g : Heap} {m cm : Str → Option Value} {vol : List (Addr × Obj)} {d : Nat} {t u : Tok} {l x y p : List Nat} {Q : Flow → Shared → Prop}

theorem seg8 {K : Shared → Prop} {D Wr N : Addr} {its wits nits : Array Value} {c cw cn : Nat} {ps : List (List Nat)} (hn : ∀ s', K s' → wpAny (model prog w) A (execs (lawBody.drop 9) env) Q E s') (V : EnvOk env lawNames L (lawCl L)) (O : Okay w b) (hA : AOk A 3) (S : St b L (lawCl L) h m cm vol)
    (hv : (D, lst its c) ∈ vol) (ha : Are its.toList (ps.map .s)) (hm : m (Str.ofString "parts") = some (.ref D)) (hps : ∀ p ∈ ps, p.length ≤ 5) (hch : ∀ p ∈ ps, ∀ c ∈ p, c < 55000) (hlen : ps.length ≤ 100) (h0 : 0 < ps.length)
    (hvw : (Wr, lst wits cw) ∈ vol) (haw : Are wits.toList ((ps.map dbl).map .s)) (hcw : cm (Str.ofString "writings") = some (.ref Wr))
    (hvn : (N, lst nits cn) ∈ vol) (han : Are nits.toList (ps.map .s)) (hcn : cm (Str.ofString "names") = some (.ref N))
    (hk : ∀ h' tk', St b L (lawCl L) h' m cm vol → K (sh s h' tk')) :
    wpAny (model prog w) A (execs (lawBody.drop 8) env) Q E (sh s h tk) := by
  have k := Kp.refl h
  have hsz : wits.size = ps.length := by have := Are.len haw; simpa using this
  refine segIn hn ?_
  repeat walk_at "st"
  refine rNeL 1 (lst_is (S.vols _ hvn)) han (lst_is (S.vols _ hv)) ha (hA.less (by omega)) (kind_s ps) (kind_s ps) (ok_s hch) (ok_s hch) ?_
  rw [eqV_self]
  repeat walk_at "st"
  refine itF' rfl ?_
  repeat walk_at "st"
  obtain ⟨t1, e1⟩ := getS haw (n := wits.size - 1) (by rw [List.length_map]; omega)
  refine rItemLast (lst_is (S.vols _ hvw)) (by omega) (by omega) e1 ?_
  have hlast : ∃ body : List Nat, (ps.map dbl)[wits.size - 1]'(by rw [List.length_map]; omega) = body ∧ body.length ≤ 10 := ⟨_, rfl, by
    rw [List.getElem_map]
    have := dbl_len (ps[wits.size - 1]'(by omega))
    have := hps (ps[wits.size - 1]'(by omega)) (List.getElem_mem _)
    omega⟩
  obtain ⟨body, eb, hb⟩ := hlast
  rw [eb]
  refine rAddS (by simp; omega) fun t2 tk2 => ?_
  repeat walk_at "st"
  refine rAddS (by simp; omega) fun t3 tk3 => ?_
  repeat walk_at "st"
  rw [show [50, 53, 55, 45, 34] ++ body ++ [34] = 50 :: 53 :: 55 :: 45 :: 34 :: (body ++ [34]) by simp]
  refine p257_h (O.keeps S.keep) k (hA.less (by omega)) (by simp; omega) fun t4 h4 tk4 k4 => ?_
  repeat walk_at "st"
  refine itF' (by simp) ?_
  repeat walk_at "st"
  exact hk _ _ (S.step k4)

/-- a comprehension over a source, stored in a local name -/
theorem compGoL {elt : Expr} {x y : Str} {scope : Scope} {clos : List (Str × Addr)} {I : Addr} {fp : List Addr} {xs : List V1} {W : Nat → Heap → Prop} {h₁ h₂ : Heap} {cl : List (Str × Addr)} {names : List (Str × NameKind)}
    (f : V1 → V1)
    (V : EnvOk env names L cl) (k : Kp g h₁) (S : St b L cl g m cm vol) (hI : h₁.get? I = none) (k2 : Kp h₁ h₂) (Wk : Src prog w A I fp xs W) (hW : W 0 h₂) (hfp : ∀ a ∈ fp, a < h₂.objs.size) (hn : xs.length ≤ 1000)
    (hkind : scope.kind = .function) (hsub : ∀ p ∈ clos, p ∈ cl) (hap : clos.Pairwise fun x y => x.2 ≠ y.2) (hck : (clos.map (·.1)).Nodup)
    (helt : ∀ env' C h₃ tk₃ (s₃ : Shared) m₃ E' v x', EnvOk env' (relNames names scope.names) C clos → St b C clos h₃ m₃ cm vol → x' ∈ xs → V1.is x' v → m₃ x = some v → tk ≤ tk₃ →
      wpAny (model prog w) A (eval elt env') (fun y s₄ => V1.is (f x') y ∧ ∃ h₄ tk₄, s₄ = sh s₃ h₄ tk₄ ∧ Kp h₃ h₄) E' (sh s₃ h₃ tk₃))
    (hQ : ∀ D h' tk' ys c, b.get? D = none → Are ys.toList (xs.map f) → St b L cl h' (fun z => if z = y then some (.ref D) else m z) cm ((D, lst ys c) :: vol) → Q .next (sh s h' tk')) :
    ∃ I' fp wr n P St' m', (Value.ref I) = .ref I' ∧ Walks prog w A I' fp wr n P St' ∧ n ≤ sizeLine ∧ St' 0 (sh s h₂ tk).heap ∧ (∀ b ∈ fp, b < (sh s h₂ tk).heap.objs.size) ∧
      env.locals ∉ wr ∧ (sh s h₂ tk).heap.Ns env.locals m' ∧ QuietOnC prog w A env scope clos x [] elt wr P (fun _ => true) (FOf f) (sh s h₂ tk) ∧
      (∀ D h' tk' ys (vs : List Value), (sh s h₂ tk).heap.get? D = none → h'.IsList D ys → h'.PlainList D ys → vs.length = n → (∀ j v, vs[j]? = some v → P j v) → Paired (FOf f) (vs.filter fun _ => true) ys.toList →
        h'.Ns env.locals (fun z => if z = y then some (.ref D) else m' z) → (∀ b o, b ≠ env.locals → b ∉ wr → (sh s h₂ tk).heap.get? b = some o → h'.get? b = some o) → Q .next { sh s h₂ tk with heap := h', toks := tk' }) := by
  have old : ∀ {s₃ : Shared}, (∀ b o, b ∉ [I] → (sh s h₂ tk).heap.get? b = some o → s₃.heap.get? b = some o) → Kp h₁ s₃.heap := fun hk a o e =>
    hk a o (fun q => by simp only [List.mem_cons, List.not_mem_nil, or_false] at q; rw [q, hI] at e; cases e) (k2 _ _ e)
  have S1 := S.step (Kp.trans k k2)
  have hst : ∀ {C : Addr} {s₃ : Shared} {m₃ : Str → Option Value}, h₂.objs.size ≤ C → s₃.heap.Ns C m₃ → (∀ b o, b ∉ [I] → (sh s h₂ tk).heap.get? b = some o → s₃.heap.get? b = some o) → St b C clos s₃.heap m₃ cm vol := fun {C s₃ m₃} hC hns hk => by
    have S' := S.step (Kp.trans k (old hk))
    have lk : ∀ n c, clos.lookup n = some c → cl.lookup n = some c := fun n c hc => lookup_of_mem_nodup S.ck (hsub _ (mem_of_lookup hc))
    exact {
      ns := hns
      keep := S'.keep
      cell := fun n c hc => S'.cell n c (lk n c hc)
      vols := S'.vols
      sz := Nat.le_trans S.sz (Nat.le_trans (Nat.le_of_lt (show L < h₂.objs.size from S1.ns.lt)) hC)
      apart := hap
      cL := fun n c hc => Nat.ne_of_lt (Nat.lt_of_lt_of_le (S1.clt (hsub _ hc)) hC)
      vL := fun p hp => Nat.ne_of_lt (Nat.lt_of_lt_of_le (S1.lt hp) hC)
      vc := fun p hp n c hc => S.vc p hp n c (hsub _ hc)
      nd := S.nd
      ck := hck }
  have hIL : I ≠ L := by
    rintro rfl
    obtain ⟨o, _, _, e, _⟩ := (S.step k).ns
    rw [hI] at e; cases e
  refine ⟨I, fp, [I], xs.length, _, W, m, rfl, Wk, Nat.le_trans hn (by rw [sizeLine_eq]; decide), hW, hfp, by rw [V.loc]; simpa using Ne.symm hIL, by rw [V.loc]; exact S1.ns, ⟨?_, ?_⟩, ?_⟩
  · rintro C i v s₃ m₃ E' hC ⟨x', hx', hv⟩ hns hmx hk htk
    exact forIn_nil_true ⟨rfl, _, _, rfl, fun _ _ e => e⟩
  · rintro C i v s₃ m₃ E' hC ⟨x', hx', hv⟩ hpv hns hmx hk htk
    refine wpAny_mono (helt (compEnvC scope clos C env) C s₃.heap s₃.toks s₃ m₃ E' v x' (compEnvOk V hkind) (hst hC hns hk) (List.mem_of_getElem? hx') hv hmx htk) (fun y s₄ ⟨e, h₄, tk₄, e4, k4⟩ => ⟨fun x hx => ?_, h₄, tk₄, e4, k4⟩) fun _ _ e => e
    rw [V1.uniq hx hv]; exact e
  · intro D h' tk' ys vs hD hl hpl hlen hP hF hns hk
    obtain ⟨c, ec⟩ := hpl
    have hD1 : h₁.get? D = none := by
      cases q : h₁.get? D with
      | none => rfl
      | some o => have := k2 _ _ q; rw [show h₂.get? D = none from hD] at this; cases this
    have kb : ∀ a o, a ≠ L → h₁.get? a = some o → h'.get? a = some o := fun a o ha e =>
      hk a o (by rw [V.loc]; exact ha) (fun q => by simp only [List.mem_cons, List.not_mem_nil, or_false] at q; rw [q, hI] at e; cases e) (k2 _ _ e)
    have S0 := S.step k
    rw [V.loc] at hns
    have hDL : D ≠ L := by
      rintro rfl
      obtain ⟨o, _, _, e, _⟩ := S0.ns
      rw [hD1] at e; cases e
    have S9 : St b L cl h' (fun z => if z = y then some (.ref D) else m z) cm vol := {
      ns := hns
      keep := fun a o e => kb a o (fun q => by rw [q, S.bL] at e; cases e) (S0.keep a o e)
      cell := fun n c hc => let ⟨ob, e, dd⟩ := S0.cell n c hc; ⟨ob, kb c ob (S.cL n c (mem_of_lookup hc)) e, dd⟩
      vols := fun p hp => kb _ _ (S.vL p hp) (S0.vols p hp)
      sz := S.sz
      apart := S.apart
      cL := S.cL
      vL := S.vL
      vc := S.vc
      nd := S.nd
      ck := S.ck }
    have hF' : Are ys.toList ((xs.filter fun _ => true).map f) := paired_of (p := fun _ => true) (are_of_get hlen hP) (fun _ _ _ => rfl) (fun x v y hx hF => hF x hx) hF
    rw [List.filter_eq_self.mpr (by simp)] at hF'
    refine hQ D h' tk' ys c (S0.blt hD1) hF' (S9.more ec hDL (fun n c hc q => ?_) fun p hp q => ?_)
    · obtain ⟨o, e, _⟩ := S0.cell n c (lookup_of_mem_nodup S.ck hc)
      rw [← q, hD1] at e; cases e
    · have := S0.vols p hp
      rw [q, hD1] at this; cases this
end
end

section
open PySem PySem.W PyProof.Rows PySem.Calls PySem.SeqAt
set_option maxRecDepth 100000
set_option maxHeartbeats 8000000
theorem swaps_local {env : Env} {names : List (Str × NameKind)} {L : Addr} {cl : List (Str × Addr)} (V : EnvOk env names L cl) {y : Str} {e : Expr} {gs : List Comprehension} {sc : Scope} {p p' : Pos} {ln : Nat} (hl : names.lookup y = some .local)
    (hp : (p.line == p'.line) = true) (ha : (sc.names.any fun (n, k) => n == y && (k == .local || k == .cell)) = false) : swapsWith (.ListComp e gs sc p') (some (.Name y p)) ln env = pure true := by
  have hk : env.kindOf y = some .local := (V.kindOf y).trans hl
  unfold swapsWith
  show pure _ = _
  have hb : env.blockKind = .function := by unfold Env.blockKind; rw [V.kind]; rfl
  rw [hk, hb]
  congr 1
  show (_ && (p.line == p'.line) && !(sc.names.any fun (n, k) => n == y && (k == .local || k == .cell))) = true
  rw [hp, ha]; rfl
section
variable {prog : Program} {w : World} {A : Around} {E : Value → Shared → Prop} {s : Shared} {h : Heap} {tk : Nat} {env : Env} {L : Nat}
  {b g : Heap} {m cm : Str → Option Value} {vol : List (Addr × Obj)} {d : Nat} {t u : Tok} {l x y p : List Nat} {Q : Flow → Shared → Prop}

theorem seg9 {K : Shared → Prop} {N : Addr} {nits : Array Value} {cn : Nat} {ps : List (List Nat)} (hn : ∀ s', K s' → wpAny (model prog w) A (execs (lawBody.drop 10) env) Q E s') (V : EnvOk env lawNames L (lawCl L)) (O : Okay w b) (hA : AOk A 3) (S : St b L (lawCl L) h m cm vol)
    (hps : ∀ p ∈ ps, p.length ≤ 5) (hlen : ps.length ≤ 100)
    (hvn : (N, lst nits cn) ∈ vol) (han : Are nits.toList (ps.map .s)) (hcn : cm (Str.ofString "names") = some (.ref N))
    (hk : ∀ D its c h' tk', b.get? D = none → Are its.toList (ps.map fun p => .b (inf p [32, 9])) → St b L (lawCl L) h' (fun z => if z = Str.ofString "alone" then some (.ref D) else m z) cm ((D, lst its c) :: vol) → K (sh s h' tk')) :
    wpAny (model prog w) A (execs (lawBody.drop 9) env) Q E (sh s h tk) := by
  have k := Kp.refl h
  refine segIn hn ?_
  refine wpAny_Assign_ListComp_free (cl := []) (fun _ => true) (FOf fun x => .b (inf (v1s x) [32, 9])) (swaps_local V (by rfl) (by rfl) (by rfl)) (closure_of V (by rfl)) (by decide) rfl (by decide) rfl ((V.kindOf _).trans (by rfl)) V.plain ?_
  repeat walk_at "st"
  refine rIterList hA.hd (lst_is (S.vols _ hvn)) han fun I h2 k2 hI Wk h0 hfp => ?_
  refine compGoL (Q := fun f s' => match f with | .next => K s' | f => Q f s') _ V (by assumption) S hI k2 Wk h0 hfp (by simpa using Nat.le_trans hlen (by decide)) (by rfl) (by simp) (by simp) (by simp) ?_ ?_
  · intro env' C h₃ tk₃ s₃ m₃ E' v x' V' S' hx' hv hmx htk
    obtain ⟨p, hp, rfl⟩ := List.mem_map.mp hx'
    obtain ⟨t2, rfl⟩ := hv
    replace V' : EnvOk env' [(Str.ofString ".0", .local), (Str.ofString "one", .local), (Str.ofString "IS_CHARACTER_JUNK", .globalImplicit)] C [] := V'
    have k3 := Kp.refl h₃
    repeat walk_at "st"
    refine junk1 (O.keeps S'.keep) k3 (hA.less (by omega)) fun h4 tk4 k4 => ?_
    exact ⟨rfl, _, _, rfl, k4⟩
  · intro D h' tk' ys c hbD hb S9
    rw [List.map_map] at hb
    exact hk D ys c h' tk' hbD hb S9
end
end

section
open PySem PySem.W PyProof.Rows PySem.Calls PySem.SeqAt
set_option maxRecDepth 100000
set_option maxHeartbeats 8000000
theorem inf_junk (l : List Nat) : inf l [32, 9] = decide (l ∈ [[], [32], [9], [32, 9]]) := by
  rw [Bool.eq_iff_iff, inf_iff]
  simp only [decide_eq_true_eq, List.infix_cons_iff, List.infix_nil, List.mem_cons, List.not_mem_nil, or_false]
  match l with
  | [] => simp
  | [a] => simp [List.cons_prefix_cons]
  | [a, b] => simp [List.cons_prefix_cons]
  | a :: b :: c :: r => simp [List.cons_prefix_cons]
noncomputable def v1b : V1 → Bool | .b q => q | _ => false
section
variable {prog : Program} {w : World} {A : Around} {E : Value → Shared → Prop} {s : Shared} {h : Heap} {tk : Nat} {env : Env} {L : Nat}
  {b g : Heap} {m cm : Str → Option Value} {vol : List (Addr × Obj)} {d : Nat} {t u : Tok} {l x y p : List Nat} {Q : Flow → Shared → Prop}

theorem seg10 {K : Shared → Prop} {N : Addr} {nits : Array Value} {cn : Nat} {qs : List Bool} (hn : ∀ s', K s' → wpAny (model prog w) A (execs (lawBody.drop 11) env) Q E s') (V : EnvOk env lawNames L (lawCl L)) (O : Okay w b) (hA : AOk A 3) (S : St b L (lawCl L) h m cm vol)
    (hlen : qs.length ≤ 100) (hvn : (N, lst nits cn) ∈ vol) (han : Are nits.toList (qs.map .b)) (hcn : m (Str.ofString "alone") = some (.ref N))
    (hk : ∀ h' tk', St b L (lawCl L) h' m cm vol → K (sh s h' tk')) :
    wpAny (model prog w) A (execs (lawBody.drop 10) env) Q E (sh s h tk) := by
  have k := Kp.refl h
  refine segIn hn ?_
  repeat walk_at "st"
  refine rComp _ (fun _ => false) (fun x => x) (closure_of V (by rfl)) (by decide) rfl (by decide) rfl ?_
  repeat walk_at "st"
  refine rIterList hA.hd (lst_is (S.vols _ hvn)) han fun I h2 k2 hI Wk h0 hfp => ?_
  refine compGo _ _ V (by assumption) S hI k2 Wk h0 hfp (by simpa using Nat.le_trans hlen (by decide)) (by rfl) (by simp) (by simp) (by simp) ?_ ?_ ?_
  · intro env' C h₃ tk₃ s₃ m₃ E' v x' V' S' hx' hv hmx _
    obtain ⟨q, hq, rfl⟩ := List.mem_map.mp hx'
    cases hv
    replace V' : EnvOk env' [(Str.ofString ".0", .local), (Str.ofString "told", .local)] C [] := V'
    have k3 := Kp.refl h₃
    refine forIn_one_true ?_
    refine PyProof.Rows.isTrue_and ?_
    repeat walk_at "st"
    refine wpAny_Constant_bool ?_
    cases q with
    | true =>
      refine wpAny_isNot_self (by rfl) ?_
      repeat walk_at "st"
      exact ⟨rfl, _, _, rfl, k3⟩
    | false =>
      refine wpAny_isNot_other (by rfl) (by simp) ?_
      repeat walk_at "st"
      refine wpAny_Constant_bool ?_
      refine wpAny_isNot_self (by rfl) ?_
      repeat walk_at "st"
      exact ⟨rfl, _, _, rfl, k3⟩
  · intro env' C h₃ tk₃ s₃ m₃ E' v x' V' S' hx' hv hpx
    cases hpx
  · intro D h' tk' ys c kD hD eD hb
    have kk := Kp.trans (by assumption : Kp h _) kD
    rw [List.filter_eq_nil_iff.mpr (by simp)] at hb
    repeat walk_at "st"
    refine rNewList (by simp) fun D2 g2 kg2 hD2 eD2 => ?_
    refine rNeL (xs := []) (ys := []) 2 (lst_is (kg2 _ _ eD)) hb (lst_is eD2) .nil (hA.less (by omega)) (by simp) (by simp) (by simp) (by simp) ?_
    rw [eqV_self]
    repeat walk_at "st"
    refine itF' rfl ?_
    repeat walk_at "st"
    exact hk _ _ (S.step (Kp.trans kk kg2))

theorem seg11 {K : Shared → Prop} {N D : Addr} {nits its : Array Value} {cn c : Nat} {ps : List (List Nat)} (hn : ∀ s', K s' → wpAny (model prog w) A (execs (lawBody.drop 12) env) Q E s') (V : EnvOk env lawNames L (lawCl L)) (O : Okay w b) (hA : AOk A 3) (S : St b L (lawCl L) h m cm vol)
    (hps : ∀ p ∈ ps, p.length ≤ 5) (hlen : ps.length ≤ 100)
    (hvn : (N, lst nits cn) ∈ vol) (han : Are nits.toList (ps.map .s)) (hcn : cm (Str.ofString "names") = some (.ref N))
    (hvd : (D, lst its c) ∈ vol) (had : Are its.toList (ps.map fun p => .b (inf p [32, 9]))) (hcd : m (Str.ofString "alone") = some (.ref D))
    (hk : ∀ h' tk', St b L (lawCl L) h' m cm vol → K (sh s h' tk')) :
    wpAny (model prog w) A (execs (lawBody.drop 11) env) Q E (sh s h tk) := by
  have k := Kp.refl h
  refine segIn hn ?_
  repeat walk_at "st"
  refine rComp _ (fun _ => true) (fun x => .b (decide (v1s x ∈ [[], [32], [9], [32, 9]]))) (closure_of V (by rfl)) (by decide) rfl (by decide) rfl ?_
  repeat walk_at "st"
  refine rIterList hA.hd (lst_is (S.vols _ hvn)) han fun I h2 k2 hI Wk h0 hfp => ?_
  refine compGo _ _ V (by assumption) S hI k2 Wk h0 hfp (by simpa using Nat.le_trans hlen (by decide)) (by rfl) (by simp) (by simp) (by simp) ?_ ?_ ?_
  · intro env' C h₃ tk₃ s₃ m₃ E' v x' V' S' hx' hv hmx _
    exact forIn_nil_true ⟨rfl, _, _, rfl, Kp.refl _⟩
  · intro env' C h₃ tk₃ s₃ m₃ E' v x' V' S' hx' hv hpx hmx htk
    obtain ⟨p, hp, rfl⟩ := List.mem_map.mp hx'
    obtain ⟨t2, rfl⟩ := hv
    replace V' : EnvOk env' [(Str.ofString ".0", .local), (Str.ofString "one", .local)] C [] := V'
    have k3 := Kp.refl h₃
    repeat walk_at "st"
    refine rNewList (by simp) fun D2 g2 kg2 hD2 eD2 => ?_
    refine rInL (ls := [[], [32], [9], [32, 9]]) (lst_is eD2) (.cons ⟨_, rfl⟩ (.cons ⟨_, rfl⟩ (.cons ⟨_, rfl⟩ (.cons ⟨_, rfl⟩ .nil)))) ?_
    exact ⟨rfl, _, _, rfl, Kp.trans k3 kg2⟩
  · intro D2 h' tk' ys c kD hD eD hb
    have kk := Kp.trans (by assumption : Kp h _) kD
    rw [List.filter_eq_self.mpr (by simp), List.map_map] at hb
    have hb2 : Are ys.toList (ps.map fun p => .b (inf p [32, 9])) := by
      have e : (ps.map ((fun x => V1.b (decide (v1s x ∈ [[], [32], [9], [32, 9]]))) ∘ V1.s)) = ps.map fun p => V1.b (inf p [32, 9]) := List.map_congr_left fun p _ => by
        show V1.b (decide (p ∈ _)) = _
        rw [inf_junk]; rfl
      rw [e] at hb; exact hb
    repeat walk_at "st"
    refine rNeL 2 (lst_is ((S.step kk).vols _ hvd)) had (lst_is eD) hb2 (hA.less (by omega)) ?_ ?_ ?_ ?_ ?_
    · intro x hx; obtain ⟨p, _, rfl⟩ := List.mem_map.mp hx; rfl
    · intro x hx; obtain ⟨p, _, rfl⟩ := List.mem_map.mp hx; rfl
    · intro x hx; obtain ⟨p, _, rfl⟩ := List.mem_map.mp hx; rfl
    · intro x hx; obtain ⟨p, _, rfl⟩ := List.mem_map.mp hx; rfl
    rw [eqV_self]
    repeat walk_at "st"
    refine itF' rfl ?_
    repeat walk_at "st"
    exact hk _ _ (S.step kk)
end
end

section
open PySem PySem.W PyProof.Rows PySem.Calls PySem.SeqAt
set_option maxRecDepth 100000
set_option maxHeartbeats 8000000
theorem nodup_inj {α : Type} {l : List α} (h : l.Nodup) {i j : Nat} {hi : i < l.length} {hj : j < l.length} (e : l[i] = l[j]) : i = j := by
  have hp := List.pairwise_iff_getElem.mp h
  rcases Nat.lt_trichotomy i j with q | q | q
  · exact absurd e (hp i j hi hj q)
  · exact q
  · exact absurd e.symm (hp j i hj hi q)
/-- the table's pairs -/
noncomputable def prs (ps : List (List Nat)) (τ : Nat → Tok) (i : Nat) : List (Str × Value) := (List.range i).map fun j => (T (ps.getD j []), Value.int (j : Nat) (τ j))
theorem getD_eq {ps : List (List Nat)} {j : Nat} (h : j < ps.length) : ps.getD j [] = ps[j] := by simp [List.getD_eq_getElem?_getD, List.getElem?_eq_getElem h]
theorem prs_stored {ps : List (List Nat)} {τ : Nat → Tok} {i : Nat} {t : Tok} (hnd : ps.Nodup) (hi : i < ps.length) : stored (prs ps τ i) (T ps[i]) (.int (i : Nat) t) = prs ps (fun j => if j = i then t else τ j) (i + 1) := by
  unfold stored
  have hno : (prs ps τ i).any (fun kv => decide (kv.1 = T ps[i])) = false := by
    rw [Bool.eq_false_iff]
    intro h
    obtain ⟨kv, hkv, e⟩ := List.any_eq_true.mp h
    obtain ⟨j, hj, rfl⟩ := List.mem_map.mp hkv
    have hj' : j < i := List.mem_range.mp hj
    have e2 := T_inj (of_decide_eq_true e)
    rw [getD_eq (by omega)] at e2
    have := nodup_inj hnd e2
    omega
  rw [hno]
  simp only [Bool.false_eq_true, if_false]
  unfold prs
  rw [List.range_succ, List.map_append, List.map_cons, List.map_nil, getD_eq hi]
  congr 1
  · refine List.map_congr_left fun j hj => ?_
    have : j ≠ i := by have := List.mem_range.mp hj; omega
    simp only [if_neg this]
  · simp
theorem prs_at {ps : List (List Nat)} {τ : Nat → Tok} {j : Nat} (hnd : ps.Nodup) (hj : j < ps.length) : valueAt (prs ps τ ps.length) (T ps[j]) = some (.int (j : Nat) (τ j)) := by
  unfold valueAt
  have : (prs ps τ ps.length).find? (fun kv => decide (kv.1 = T ps[j])) = some (T ps[j], .int (j : Nat) (τ j)) := by
    rw [List.find?_eq_some_iff_getElem]
    refine ⟨by simp, j, by simpa [prs] using hj, by simp only [prs, List.getElem_map, List.getElem_range, getD_eq hj], fun k hk => ?_⟩
    simp only [prs, List.getElem_map, List.getElem_range, Bool.not_eq_true', decide_eq_false_iff_not]
    intro e
    have e2 := T_inj e
    rw [getD_eq (by omega)] at e2
    have := nodup_inj hnd e2
    omega
  rw [this]; rfl
theorem prs_none {ps : List (List Nat)} {τ : Nat → Tok} {x : List Nat} (hx : x ∉ ps) : valueAt (prs ps τ ps.length) (T x) = none := by
  unfold valueAt
  have : (prs ps τ ps.length).find? (fun kv => decide (kv.1 = T x)) = none := by
    rw [List.find?_eq_none]
    intro kv hkv
    obtain ⟨j, hj, rfl⟩ := List.mem_map.mp hkv
    have hj' : j < ps.length := List.mem_range.mp hj
    simp only [decide_eq_true_eq]
    intro e
    have e2 := T_inj e
    rw [getD_eq hj'] at e2
    exact hx (e2 ▸ List.getElem_mem _)
  rw [this]; rfl
section
variable {prog : Program} {w : World} {A : Around} {E : Value → Shared → Prop} {s : Shared} {h : Heap} {tk : Nat} {env : Env} {L : Nat}
  {b g : Heap} {m cm : Str → Option Value} {vol : List (Addr × Obj)} {d : Nat} {t u : Tok} {l x y p : List Nat} {Q : Flow → Shared → Prop}

theorem seg12 {K : Shared → Prop} (hn : ∀ s', K s' → wpAny (model prog w) A (execs (lawBody.drop 13) env) Q E s') (V : EnvOk env lawNames L (lawCl L)) (O : Okay w b) (S : St b L (lawCl L) h m cm vol)
    (hk : ∀ P oP h' tk', b.get? P = none → (P == sysModules) = false → oP.IsDictOf (PySem.strKind prog w) [] → St b L (lawCl L) h' m (fun z => if z = Str.ofString "places" then some (.ref P) else cm z) ((P, oP) :: vol) → K (sh s h' tk')) :
    wpAny (model prog w) A (execs (lawBody.drop 12) env) Q E (sh s h tk) := by
  have k := Kp.refl h
  refine segIn hn ?_
  repeat walk_at "st"
  refine wpAny_Dict_empty ?_
  have hD : h.get? h.objs.size = none := get_size h
  have eD : (h.push { cls := .type "dict", data := .dict #[] }).get? h.objs.size = some { cls := .type "dict", data := .dict #[] } := Heap.get?_push_size _ rfl
  have S1 := S.addV (Kp.push h { cls := .type "dict", data := .dict #[] }) hD eD
  have k1 := Kp.refl (h.push { cls := .type "dict", data := .dict #[] })
  have hsys : (h.objs.size == sysModules) = false := by
    have h1 := Heap.lt_size (O.K 111 (fnObj w.params 111) (by with_unfolding_all rfl))
    have h2 := S.sz
    have h3 : L < h.objs.size := S.ns.lt
    rw [beq_eq_false_iff_ne]
    intro e
    have e' : h.objs.size = 1 := e
    have h4 : 111 < h.objs.size := Nat.lt_trans (Nat.lt_of_lt_of_le h1 h2) h3
    rw [e'] at h4
    exact absurd h4 (by decide)
  obtain ⟨oP, ho, hd⟩ := Heap.dictOf_iff.mp (Heap.DictOf.new (knd := PySem.strKind prog w) h)
  rw [eD] at ho; cases ho
  generalize h.objs.size = P at *
  generalize h.push { cls := .type "dict", data := .dict #[] } = g1 at *
  show wpAny _ _ _ _ _ (sh s g1 tk)
  repeat walk_at "st"
  (rename St _ _ _ _ _ _ _ => S9)
  exact hk P _ _ _ (S.blt hD) hsys hd S9

theorem seg13 {K : Shared → Prop} {N P : Addr} {oP : Obj} {nits : Array Value} {cn : Nat} {ps : List (List Nat)} (hn : ∀ s', K s' → wpAny (model prog w) A (execs (lawBody.drop 14) env) Q E s') (V : EnvOk env lawNames L (lawCl L)) (O : Okay w b) (hA : AOk A 3) (S : St b L (lawCl L) h m cm ((P, oP) :: vol))
    (hlen : ps.length ≤ 100) (hnd : ps.Nodup) (hbP : b.get? P = none) (hoP : oP.IsDictOf (PySem.strKind prog w) [])
    (hvn : (N, lst nits cn) ∈ vol) (han : Are nits.toList (ps.map .s)) (hcn : cm (Str.ofString "names") = some (.ref N)) (hcp : cm (Str.ofString "places") = some (.ref P))
    (hk : ∀ oP τ h' tk' cm', (∀ z, z ≠ Str.ofString "k" → cm' z = cm z) → oP.IsDictOf (PySem.strKind prog w) (prs ps τ ps.length) → St b L (lawCl L) h' m cm' ((P, oP) :: vol) → K (sh s h' tk')) :
    wpAny (model prog w) A (execs (lawBody.drop 13) env) Q E (sh s h tk) := by
  have k := Kp.refl h
  have hsz : nits.size = ps.length := by have := Are.len han; simpa using this
  refine segIn hn ?_
  repeat walk_at "st"
  refine rLenL (lst_is (S.vols _ (.tail _ hvn))) (by omega) fun t1 tk1 => ?_
  repeat walk_at "st"
  refine rIterRange1 (n := ps.length) (by omega) hA.hd (by omega) fun I h2 tk2 k2 hI Wk h0 => ?_
  refine forGo (fun i h m' cm' vol' => ∃ oP τ, vol' = (P, oP) :: vol ∧ oP.IsDictOf (PySem.strKind prog w) (prs ps τ i) ∧ m' = m ∧ (∀ z, z ≠ Str.ofString "k" → cm' z = cm z))
    k S hI k2 Wk h0 (fun _ _ => RgSt.obj) ⟨oP, fun _ => 0, rfl, hoP, rfl, fun _ _ => rfl⟩ (fun _ _ _ _ _ _ z _ _ => z) ?_ ?_
  · intro i x v o h tk m' cm' vol' hx hv hJ S Q' E' hQ'
    obtain ⟨oP, τ, rfl, hoP, rfl, hcm⟩ := hJ
    obtain ⟨hi, rfl⟩ := rng_inv hx
    obtain ⟨t2, rfl⟩ := hv
    have k := Kp.refl h
    have hcn' : cm' (Str.ofString "names") = some (.ref N) := (hcm _ (by decide)).trans hcn
    have hcp' : cm' (Str.ofString "places") = some (.ref P) := (hcm _ (by decide)).trans hcp
    repeat walk_at "st"
    (rename St _ _ _ _ _ _ _ => S2)
    (rename Kp _ _ => k3)
    obtain ⟨t3, e3⟩ := getS han (n := i) hi
    refine rItem (lst_is (k3 _ _ (S2.vols _ (.tail _ (.tail _ hvn))))) (by omega) (by omega) (by simpa using e3) ?_
    have hPn : (P, oP) ∈ ((I, o) :: (P, oP) :: vol) := .tail _ (.head _)
    refine wpAny_setItem_pairs (s := sh s _ tk) (knd := PySem.strKind prog w) (k := T ps[i]) (isStr_self _ _) (Heap.dictOf_iff.mpr ⟨oP, k3 _ _ (S2.vols _ hPn), hoP⟩) (fun h5 hd5 hs5 => ?_) (small_size (by simp [prs]; omega))
    obtain ⟨oP5, e5, hd5⟩ := Heap.dictOf_iff.mp hd5
    rw [Nat.zero_add i, prs_stored hnd hi] at hd5
    have S5 := (S2.step k3).setV (pre := [(I, o)]) hbP hs5 e5
    refine wpAny_execs_nil ?_
    refine hQ' .next _ (TurnP.next (tk' := tk + 1) ?_ S5)
    have hz : (0 + i) = i := Nat.zero_add i
    exact ⟨oP5, _, rfl, hd5, rfl, fun z hz => by simp only [if_neg hz]; exact hcm z hz⟩
  · rintro h tk m' cm' vol' ⟨oP, τ, rfl, hoP, rfl, hcm⟩ S
    rw [rng_len] at hoP
    exact wpAny_execs_nil (hk oP τ _ _ cm' hcm hoP S)
end
end

section
open PySem PySem.W PyProof.Rows PySem.Calls PySem.SeqAt
set_option maxRecDepth 100000
set_option maxHeartbeats 8000000
/-- the weights -/
noncomputable def wts (a : Int) (wd n : Nat) : List Nat := (List.range n).map fun k => ((a * ((k : Nat) + 1)).fmod (2 ^ wd - 1) + 1).toNat
theorem two_pow_ge {wd : Nat} (h : 4 ≤ wd) : (16 : Int) ≤ 2 ^ wd := by
  have : 2 ^ 4 ≤ 2 ^ wd := Nat.pow_le_pow_right (by decide) h
  have h2 : ((2 ^ 4 : Nat) : Int) ≤ ((2 ^ wd : Nat) : Int) := Int.ofNat_le.mpr this
  simpa using h2
theorem wts_mem {a : Int} {wd n x : Nat} (h4 : 4 ≤ wd) (hx : x ∈ wts a wd n) : 0 < x ∧ x < 2 ^ wd := by
  obtain ⟨k, _, rfl⟩ := List.mem_map.mp hx
  have h := two_pow_ge h4
  have hr := fmod_range (a := a * ((k : Nat) + 1)) (n := 2 ^ wd - 1) (by omega)
  have e : ((2 ^ wd : Nat) : Int) = 2 ^ wd := by simp
  omega
theorem St.backL {b : Heap} {L : Addr} {cl : List (Str × Addr)} {h h' : Heap} {m cm : Str → Option Value} {vol : List (Addr × Obj)} (S : St b L cl h m cm vol) (e : Heap.ExtBut L h h') (hn : h'.Ns L m) : St b L cl h' m cm vol where
  ns := hn
  keep := fun a o q => e a o (fun z => by rw [z, S.bL] at q; cases q) (S.keep a o q)
  cell := fun n c hc => let ⟨ob, q, dd⟩ := S.cell n c hc; ⟨ob, e c ob (S.cL n c (mem_of_lookup hc)) q, dd⟩
  vols := fun p hp => e _ _ (S.vL p hp) (S.vols p hp)
  sz := S.sz
  apart := S.apart
  cL := S.cL
  vL := S.vL
  vc := S.vc
  nd := S.nd
  ck := S.ck
section
variable {prog : Program} {w : World} {A : Around} {E : Value → Shared → Prop} {s : Shared} {h : Heap} {tk : Nat} {env : Env} {L : Nat}
  {b g : Heap} {m cm : Str → Option Value} {vol : List (Addr × Obj)} {d : Nat} {t u : Tok} {l x y p : List Nat} {Q : Flow → Shared → Prop}

theorem seg14 {K : Shared → Prop} {N H : Addr} {oH : Obj} {nits hits : Array Value} {cn : Nat} {ps : List (List Nat)} {hs : List Int} {wd : Nat} {wt : Tok} (hn : ∀ s', K s' → wpAny (model prog w) A (execs (lawBody.drop 15) env) Q E s') (V : EnvOk env lawNames L (lawCl L)) (O : Okay w b) (hA : AOk A 3) (S : St b L (lawCl L) h m cm vol)
    (hlen : ps.length ≤ 100) (h4w : 4 ≤ wd) (hw : wd ≤ 123)
    (hvn : (N, lst nits cn) ∈ vol) (han : Are nits.toList (ps.map .s)) (hcn : cm (Str.ofString "names") = some (.ref N))
    (hvH : (H, oH) ∈ vol) (hH : isLst oH hits) (haH : Are hits.toList (hs.map .i)) (h4 : hs.length = 4) (hcH : cm (Str.ofString "heaps") = some (.ref H)) (hcw : cm (Str.ofString "width") = some (.int wd wt))
    (hk : ∀ D its c h' tk' (ws : List Nat), b.get? D = none → ws.length = ps.length → (∀ x ∈ ws, 0 < x ∧ x < 2 ^ wd) → Are its.toList (ws.map fun n => .i (n : Nat)) → St b L (lawCl L) h' m (fun z => if z = Str.ofString "weights" then some (.ref D) else cm z) ((D, lst its c) :: vol) → K (sh s h' tk')) :
    wpAny (model prog w) A (execs (lawBody.drop 14) env) Q E (sh s h tk) := by
  have k := Kp.refl h
  have hsz : nits.size = ps.length := by have := Are.len han; simpa using this
  refine segIn hn ?_
  repeat walk_at "st"
  refine rComp _ (fun _ => true) (fun x => .i ((hs.getD 2 0 * ((v1n x : Nat) + 1)).fmod (2 ^ wd - 1) + 1)) (closure_of V (by rfl)) (by decide) rfl (by decide) rfl ?_
  repeat walk_at "st"
  refine rLenL (lst_is (S.vols _ hvn)) (by omega) fun t1 tk1 => ?_
  repeat walk_at "st"
  refine rIterRange1 (n := ps.length) (by omega) hA.hd (by omega) fun I h2 tk2 k2 hI Wk h0 => ?_
  refine compGo _ _ V (by assumption) S hI k2 Wk h0 (by simpa using (RgSt.obj h0).elim fun _ e => Heap.lt_size e) (by rw [rng_len]; omega) (by rfl) (by simp) (hapOf S (by simp) (by simp; decide)) (by simp; decide) ?_ ?_ ?_
  · intro env' C h₃ tk₃ s₃ m₃ E' v x' V' S' hx' hv hmx _
    exact forIn_nil_true ⟨rfl, _, _, rfl, Kp.refl _⟩
  · intro env' C0 h₃ tk₃ s₃ m₃ E' v x' V' S' hx' hv hpx hmx _
    obtain ⟨i, hi, rfl⟩ := rng_mem hx'
    obtain ⟨t2, rfl⟩ := hv
    replace V' : EnvOk env' [(Str.ofString ".0", .local), (Str.ofString "k", .local), (Str.ofString "heaps", .cell), (Str.ofString "width", .cell)] C0 [(Str.ofString "width", L + 1 + 1 + 1), (Str.ofString "heaps", L + 1)] := V'
    have k3 := Kp.refl h₃
    obtain ⟨t3, e3⟩ := getI haH (n := 2) (by omega)
    have hge := two_pow_ge h4w
    repeat walk_at "st"
    refine rItem (hH.list (S'.vols _ hvH)) (by decide) (by decide) (by simpa using e3) ?_
    repeat walk_at "st"
    refine rMul (IntMulOk.of_right ?_) fun t4 tk4 => ?_
    · have : (((0 + i : Nat) : Int) + 1) = ((i + 1 : Nat) : Int) := by omega
      rw [this]
      exact Nat.le_trans (intBits_lt (k := 7) (by omega)) (by decide)
    repeat walk_at "st"
    refine rPow (by omega) (by omega) (by decide) fun t5 tk5 => ?_
    repeat walk_at "st"
    rw [Int.toNat_natCast]
    refine rMod (by omega) fun t6 tk6 => ?_
    repeat walk_at "st"
    have hg : hs.getD 2 0 = hs[2] := by rw [List.getD_eq_getElem?_getD, List.getElem?_eq_getElem (by omega)]; rfl
    have he : ((v1n (.i ((0 + i : Nat) : Int)) : Nat) : Int) = ((0 + i : Nat) : Int) := by
      show ((((0 + i : Nat) : Int).toNat : Nat) : Int) = _
      rw [Int.toNat_natCast]
    rw [hg, he]
    exact ⟨⟨_, rfl⟩, _, _, rfl, k3⟩
  · intro D h' tk' ys c kD hD eD hb
    have kk := Kp.trans (by assumption : Kp h _) kD
    have S2 := S.addV kk hD eD
    have k2 := Kp.refl h'
    repeat walk_at "st"
    (rename St _ _ _ _ _ _ _ => S9)
    refine hk D _ _ _ _ (wts (hs.getD 2 0) wd ps.length) (S.blt hD) (by simp [wts]) (fun x hx => wts_mem h4w hx) ?_ S9
    rw [List.filter_eq_self.mpr (by simp), rng, List.map_map] at hb
    rw [wts, List.map_map]
    refine cast ?_ hb
    congr 1
    refine List.map_congr_left fun i hi => ?_
    have hr := fmod_range (a := hs.getD 2 0 * ((i : Nat) + 1)) (n := 2 ^ wd - 1) (by have := two_pow_ge h4w; omega)
    show V1.i ((hs.getD 2 0 * (((0 + i : Nat) : Int).toNat + 1)).fmod (2 ^ wd - 1) + 1) = V1.i (((hs.getD 2 0 * ((i : Nat) + 1)).fmod (2 ^ wd - 1) + 1).toNat : Nat)
    rw [Nat.zero_add, Int.toNat_natCast]
    congr 1
    omega
end
end

section
open PySem PySem.W PyProof.Rows PySem.Calls PySem.SeqAt
set_option maxRecDepth 100000
set_option maxHeartbeats 8000000
section
variable {prog : Program} {w : World} {A : Around} {E : Value → Shared → Prop} {s : Shared} {h : Heap} {tk : Nat} {env : Env} {L : Nat}
  {b g : Heap} {m cm : Str → Option Value} {vol : List (Addr × Obj)} {d : Nat} {t u : Tok} {l x y p : List Nat} {Q : Flow → Shared → Prop}

theorem seg15 {K : Shared → Prop} (hn : ∀ s', K s' → wpAny (model prog w) A (execs (lawBody.drop 16) env) Q E s') (V : EnvOk env lawNames L (lawCl L)) (O : Okay w b) (hA : AOk A 3) (S : St b L (lawCl L) h m cm vol)
    (hk : ∀ x dx h' tk', b.get? x = none → b.get? dx = none → St b L (lawCl L) h' m (fun z => if z = Str.ofString "finder" then some (.ref x) else cm z) ((x, instObj 149 dx) :: (dx, emptyDict) :: vol) → K (sh s h' tk')) :
    wpAny (model prog w) A (execs (lawBody.drop 15) env) Q E (sh s h tk) := by
  have k := Kp.refl h
  refine segIn hn ?_
  repeat walk_at "st"
  have OK := O.keeps S.keep
  refine callWith_of (P := fun h' => Okay w h') (by rfl) (fun h' O' => ?_) (PyProof.Rows.evalArgs_none ⟨OK, ?_⟩)
  · obtain ⟨kk, h1, h2⟩ := looks_keep (M := model prog w) (K := hd.heap_39 w.params) (f := .ref 149) (h := h') (by with_unfolding_all rfl) O'.K
    exact ⟨kk, h1.elim .inl fun z => .inr (.inl z), h2⟩
  refine fmt_make O S.keep fun x dx h1 k1 hx hdx hne ex edx => ?_
  have S1 : St b L (lawCl L) h1 m cm ((x, instObj 149 dx) :: (dx, emptyDict) :: vol) := (S.addV k1 hdx edx).more ex (fun q => by
      obtain ⟨o, _, _, e, _⟩ := S.ns
      rw [← q, hx] at e; cases e) (fun n c hc q => by
      obtain ⟨o, e, _⟩ := S.cell n c (lookup_of_mem_nodup S.ck hc)
      rw [← q, hx] at e; cases e) (fun p hp q => by
      rcases List.mem_cons.mp hp with rfl | hp
      · exact hne q.symm
      · have := S.vols p hp
        rw [q, hx] at this; cases this)
  have k2 := Kp.refl h1
  repeat walk_at "st"
  (rename St _ _ _ _ _ _ _ => S9)
  exact hk x dx _ _ (S.blt hx) (S.blt hdx) S9

theorem seg16 {K : Shared → Prop} {N P D x dx : Addr} {oP : Obj} {nits its : Array Value} {cn c : Nat} {ps : List (List Nat)} {τ : Nat → Tok} (hn : ∀ s', K s' → wpAny (model prog w) A (execs (lawBody.drop 17) env) Q E s') (V : EnvOk env lawNames L (lawCl L)) (O : Okay w b) (hA : AOk A 5) (S : St b L (lawCl L) h m cm vol)
    (hfr : A.frames = some [env]) (hframe : env.frame = some L)
    (hlen : ps.length ≤ 100) (h0 : 0 < ps.length) (hps : ∀ p ∈ ps, p.length ≤ 5) (hl5 : ∀ h : ps.length - 1 < ps.length, (ps[ps.length - 1]).length = 5)
    (hvn : (N, lst nits cn) ∈ vol) (han : Are nits.toList (ps.map .s)) (hcn : cm (Str.ofString "names") = some (.ref N))
    (hvx : (x, instObj 149 dx) ∈ vol) (hvdx : (dx, emptyDict) ∈ vol) (hcx : cm (Str.ofString "finder") = some (.ref x))
    (hvP : (P, oP) ∈ vol) (hoP : oP.IsDictOf (PySem.strKind prog w) (prs ps τ ps.length)) (hcP : cm (Str.ofString "places") = some (.ref P)) (hsys : (P == sysModules) = false)
    (hcW : cm (Str.ofString "weights") = some (.ref D))
    (hk : ∀ h' tk', St b L (lawCl L) h' m cm vol → K (sh s h' tk')) :
    wpAny (model prog w) A (execs (lawBody.drop 16) env) Q E (sh s h tk) := by
  have k := Kp.refl h
  have hsz : nits.size = ps.length := by have := Are.len han; simpa using this
  refine segIn hn ?_
  refine wpAny_If ?_
  refine PyProof.Rows.isTrue_not ?_
  repeat walk_at "st"
  obtain ⟨t1, e1⟩ := getS han (n := nits.size - 1) (by omega)
  refine rItemLast (lst_is (S.vols _ hvn)) (by omega) (by omega) e1 ?_
  have hl : (ps[nits.size - 1]'(by omega)).length = 5 := by
    have := hl5 (by omega)
    simpa [hsz] using this
  generalize ps[nits.size - 1]'(by omega) = nm at *
  repeat walk_at "st"
  refine rAddS (by rw [hl]; decide) fun t2 tk2 => ?_
  repeat walk_at "st"
  have hmiss : nm ++ [120] ∉ ps := fun hm => by have := hps _ hm; rw [List.length_append, hl] at this; exact absurd this (by decide)
  refine lacks_call O S.keep S.bL (hA.less (by omega)) hfr hframe V.kind S.ns (S.vols _ hvx) (S.vols _ hvdx) (S.vL _ hvx) (S.vL _ hvdx) (S.vL _ hvP) (Heap.dictOf_iff.mpr ⟨oP, S.vols _ hvP, hoP⟩) (prs_none hmiss) hsys fun h' tk' he hn' => ?_
  have S2 := S.backL he hn'
  repeat walk_at "st"
  refine itF' rfl ?_
  repeat walk_at "st"
  exact hk _ _ S2

theorem seg17 {K : Shared → Prop} (hn : ∀ s', K s' → wpAny (model prog w) A (execs (lawBody.drop 18) env) Q E s') (V : EnvOk env lawNames L (lawCl L)) (O : Okay w b) (S : St b L (lawCl L) h m cm vol)
    (hk : ∀ D h' tk', b.get? D = none → St b L (lawCl L) h' (fun z => if z = Str.ofString "sums" then some (.ref D) else m z) cm ((D, lst #[] 0) :: vol) → K (sh s h' tk')) :
    wpAny (model prog w) A (execs (lawBody.drop 17) env) Q E (sh s h tk) := by
  have k := Kp.refl h
  refine segIn hn ?_
  repeat walk_at "st"
  refine rNewList (by simp) fun D g1 kg hD eD => ?_
  have S1 := S.addV kg hD eD
  have k1 := Kp.refl g1
  repeat walk_at "st"
  (rename St _ _ _ _ _ _ _ => S9)
  exact hk D _ _ (S.blt hD) S9
theorem seg19 {K : Shared → Prop} (hn : ∀ s', K s' → wpAny (model prog w) A (execs (lawBody.drop 20) env) Q E s') (V : EnvOk env lawNames L (lawCl L)) (O : Okay w b) (S : St b L (lawCl L) h m cm vol)
    (hk : ∀ D h' tk', b.get? D = none → St b L (lawCl L) h' (fun z => if z = Str.ofString "left" then some (.ref D) else m z) cm ((D, lst #[] 0) :: vol) → K (sh s h' tk')) :
    wpAny (model prog w) A (execs (lawBody.drop 19) env) Q E (sh s h tk) := by
  have k := Kp.refl h
  refine segIn hn ?_
  repeat walk_at "st"
  refine rNewList (by simp) fun D g1 kg hD eD => ?_
  have S1 := S.addV kg hD eD
  have k1 := Kp.refl g1
  repeat walk_at "st"
  (rename St _ _ _ _ _ _ _ => S9)
  exact hk D _ _ (S.blt hD) S9
end
end

section
open PySem PySem.W PyProof.Rows PySem.Calls PySem.SeqAt
set_option maxRecDepth 100000
set_option maxHeartbeats 8000000
noncomputable def forBody : Stmt → List Stmt
  | .For _ _ b _ _ => b
  | _ => []
noncomputable def b18 : List Stmt := forBody (lawBody.getD 18 default)
noncomputable def b20 : List Stmt := forBody (lawBody.getD 20 default)

theorem inf_dbl_pre : ∀ {x y B : List Nat}, dbl x ++ B = dbl y → ∃ B', x ++ B' = y
  | [], y, _, _ => ⟨y, rfl⟩
  | c :: x, [], B, h => by
    have : dbl (c :: x) = (if c = 34 then [34, 34] else [c]) ++ dbl x := rfl
    rw [this] at h
    have h2 := congrArg List.length h
    simp only [List.length_append, dbl, List.flatMap_nil, List.length_nil] at h2
    split at h2 <;> simp at h2
  | c :: x, e :: y, B, h => by
    have e1 : dbl (c :: x) = (if c = 34 then [34, 34] else [c]) ++ dbl x := rfl
    have e2 : dbl (e :: y) = (if e = 34 then [34, 34] else [e]) ++ dbl y := rfl
    rw [e1, e2] at h
    have hce : c = e := by
      by_cases h1 : c = 34
      · by_cases h2 : e = 34
        · rw [h1, h2]
        · rw [if_pos h1, if_neg h2] at h
          simp only [List.cons_append, List.cons.injEq] at h
          exact absurd h.1.symm h2
      · by_cases h2 : e = 34
        · rw [if_neg h1, if_pos h2] at h
          simp only [List.cons_append, List.cons.injEq] at h
          exact absurd h.1 h1
        · rw [if_neg h1, if_neg h2] at h
          simp only [List.cons_append, List.cons.injEq] at h
          exact h.1
    subst hce
    rw [List.append_assoc] at h
    obtain ⟨B', hB⟩ := inf_dbl_pre (List.append_cancel_left h)
    exact ⟨B', by rw [List.cons_append, hB]⟩
theorem inf_dbl_mis : ∀ {x y B : List Nat}, dbl x ++ B = 34 :: dbl y → ∃ B', x ++ B' = 34 :: y
  | [], y, _, _ => ⟨34 :: y, rfl⟩
  | c :: x, y, B, h => by
    have e1 : dbl (c :: x) = (if c = 34 then [34, 34] else [c]) ++ dbl x := rfl
    rw [e1] at h
    by_cases hc : c = 34
    · subst hc
      simp only [if_true, List.cons_append, List.nil_append, List.cons.injEq, true_and] at h
      match y, h with
      | [], h => simp [dbl] at h
      | e :: y, h =>
        have e2 : dbl (e :: y) = (if e = 34 then [34, 34] else [e]) ++ dbl y := rfl
        rw [e2] at h
        by_cases he : e = 34
        · subst he
          simp only [if_true, List.cons_append, List.nil_append, List.cons.injEq, true_and] at h
          obtain ⟨B', hB⟩ := inf_dbl_mis h
          exact ⟨B', by rw [List.cons_append, hB]⟩
        · simp [he] at h
          exact absurd h.1.symm he
    · simp [hc] at h
theorem dbl_app (a b : List Nat) : dbl (a ++ b) = dbl a ++ dbl b := by simp [dbl]
theorem inf_dbl_sound : ∀ {y x A B : List Nat}, A ++ dbl x ++ B = dbl y → x <:+: y
  | [], x, A, B, h => by
    have hx : dbl x = [] := by
      have := congrArg List.length h
      simp only [List.length_append, dbl, List.flatMap_nil, List.length_nil] at this
      exact List.eq_nil_of_length_eq_zero (by simp only [dbl]; omega)
    match x, hx with
    | [], _ => exact List.nil_infix
    | c :: x, hx =>
      have e1 : dbl (c :: x) = (if c = 34 then [34, 34] else [c]) ++ dbl x := rfl
      rw [e1] at hx
      split at hx <;> simp at hx
  | e :: y, x, A, B, h => by
    have e2 : dbl (e :: y) = (if e = 34 then [34, 34] else [e]) ++ dbl y := rfl
    match A, h with
    | [], h =>
      obtain ⟨B', hB⟩ := inf_dbl_pre (x := x) (y := e :: y) (B := B) (by simpa using h)
      exact ⟨[], B', by simpa using hB⟩
    | a :: A, h =>
      rw [e2] at h
      by_cases he : e = 34
      · subst he
        simp only [if_true, List.cons_append, List.nil_append, List.cons.injEq] at h
        match A, h.2 with
        | [], h =>
          obtain ⟨B', hB⟩ := inf_dbl_mis (x := x) (y := y) (B := B) (by simpa using h)
          exact ⟨[], B', by simpa using hB⟩
        | a' :: A, h =>
          simp only [List.cons_append, List.cons.injEq] at h
          obtain ⟨p, q, hpq⟩ := inf_dbl_sound (x := x) (A := A) (B := B) (by simpa using h.2)
          exact ⟨34 :: p, q, by rw [List.cons_append, List.cons_append, hpq]⟩
      · simp only [he, if_false, List.cons_append, List.nil_append, List.cons.injEq] at h
        obtain ⟨p, q, hpq⟩ := inf_dbl_sound (x := x) (A := A) (B := B) (by simpa using h.2)
        exact ⟨e :: p, q, by rw [List.cons_append, List.cons_append, hpq]⟩
/-- the doubled texts stand in each other as the texts do -/
theorem inf_dbl (x y : List Nat) : inf (dbl x) (dbl y) = inf x y := by
  rw [Bool.eq_iff_iff, inf_iff, inf_iff]
  constructor
  · rintro ⟨A, B, h⟩; exact inf_dbl_sound h
  · rintro ⟨A, B, rfl⟩; exact ⟨dbl A, dbl B, by rw [dbl_app, dbl_app]⟩
section
variable {prog : Program} {w : World} {A : Around} {E : Value → Shared → Prop} {s : Shared} {h : Heap} {tk : Nat} {env : Env} {L : Nat}
  {b g : Heap} {m cm : Str → Option Value} {vol : List (Addr × Obj)} {d : Nat} {t u : Tok} {l x y p : List Nat} {Q : Flow → Shared → Prop}

theorem seg18_0 {K : Shared → Prop} {Wr : Addr} {wits : Array Value} {cw : Nat} {ps : List (List Nat)} {i : Nat} {ti : Tok} (hn : ∀ s', K s' → wpAny (model prog w) A (execs (b18.drop 1) env) Q E s') (V : EnvOk env lawNames L (lawCl L)) (O : Okay w b) (hA : AOk A 3) (S : St b L (lawCl L) h m cm vol)
    (hlen : ps.length ≤ 100) (hi : i < ps.length)
    (hvw : (Wr, lst wits cw) ∈ vol) (haw : Are wits.toList ((ps.map dbl).map .s)) (hcw : cm (Str.ofString "writings") = some (.ref Wr)) (hck : cm (Str.ofString "k") = some (.int (i : Nat) ti))
    (hk : ∀ D its c h' tk', b.get? D = none → Are its.toList (ps.map fun p => .b (inf p ps[i])) → St b L (lawCl L) h' m (fun z => if z = Str.ofString "held" then some (.ref D) else cm z) ((D, lst its c) :: vol) → K (sh s h' tk')) :
    wpAny (model prog w) A (execs b18 env) Q E (sh s h tk) := by
  have k := Kp.refl h
  refine segIn hn ?_
  repeat walk_at "st"
  refine rComp _ (fun _ => true) (fun x => .b (inf (v1s x) (dbl ps[i]))) (closure_of V (by rfl)) (by decide) rfl (by decide) rfl ?_
  repeat walk_at "st"
  refine rIterList hA.hd (lst_is (S.vols _ hvw)) haw fun I h2 k2 hI Wk h0 hfp => ?_
  refine compGo _ _ V (by assumption) S hI k2 Wk h0 hfp (by simpa using Nat.le_trans hlen (by decide)) (by rfl) (by simp) (hapOf S (by simp) (by simp; decide)) (by simp; decide) ?_ ?_ ?_
  · intro env' C h₃ tk₃ s₃ m₃ E' v x' V' S' hx' hv hmx _
    exact forIn_nil_true ⟨rfl, _, _, rfl, Kp.refl _⟩
  · intro env' C0 h₃ tk₃ s₃ m₃ E' v x' V' S' hx' hv hpx hmx _
    obtain ⟨p, hp, rfl⟩ := List.mem_map.mp hx'
    obtain ⟨t2, rfl⟩ := hv
    replace V' : EnvOk env' [(Str.ofString ".0", .local), (Str.ofString "one", .local), (Str.ofString "IS_CHARACTER_JUNK", .globalImplicit), (Str.ofString "k", .cell), (Str.ofString "writings", .cell)] C0 [(Str.ofString "writings", L + 1 + 1 + 1 + 1 + 1), (Str.ofString "k", L + 1 + 1 + 1 + 1)] := V'
    have k3 := Kp.refl h₃
    obtain ⟨t4, e4⟩ := getS haw (n := i) (by simpa using hi)
    rw [List.getElem_map] at e4
    repeat walk_at "st"
    refine rItem (lst_is (S'.vols _ hvw)) (by omega) (by omega) (by simpa using e4) ?_
    repeat walk_at "st"
    refine junk2 (O.keeps S'.keep) k3 (hA.less (by omega)) fun h4 tk4 k4 => ?_
    exact ⟨rfl, _, _, rfl, k4⟩
  · intro D h' tk' ys c kD hD eD hb
    have kk := Kp.trans (by assumption : Kp h _) kD
    have S2 := S.addV kk hD eD
    have k2 := Kp.refl h'
    repeat walk_at "st"
    (rename St _ _ _ _ _ _ _ => S9)
    refine hk D _ _ _ _ (S.blt hD) ?_ S9
    rw [List.filter_eq_self.mpr (by simp), List.map_map, List.map_map] at hb
    refine cast ?_ hb
    congr 1
    refine List.map_congr_left fun p _ => ?_
    show V1.b (inf (dbl p) (dbl ps[i])) = _
    rw [inf_dbl]
end
end

section
open PySem PySem.W PyProof.Rows PySem.Calls PySem.SeqAt
set_option maxRecDepth 100000
set_option maxHeartbeats 8000000
theorem kind_b {α : Type} (ps : List α) (f : α → Bool) : ∀ x ∈ ps.map (fun p => V1.b (f p)), x.kind = 2 := fun x hx => by obtain ⟨p, _, rfl⟩ := List.mem_map.mp hx; rfl
theorem ok_b {α : Type} (ps : List α) (f : α → Bool) : ∀ x ∈ ps.map (fun p => V1.b (f p)), x.ok = true := fun x hx => by obtain ⟨p, _, rfl⟩ := List.mem_map.mp hx; rfl
theorem kind_i {α : Type} (ps : List α) (f : α → Int) : ∀ x ∈ ps.map (fun p => V1.i (f p)), x.kind = 0 := fun x hx => by obtain ⟨p, _, rfl⟩ := List.mem_map.mp hx; rfl
theorem ok_i {α : Type} (ps : List α) (f : α → Int) : ∀ x ∈ ps.map (fun p => V1.i (f p)), x.ok = true := fun x hx => by obtain ⟨p, _, rfl⟩ := List.mem_map.mp hx; rfl
section
variable {prog : Program} {w : World} {A : Around} {E : Value → Shared → Prop} {s : Shared} {h : Heap} {tk : Nat} {env : Env} {L : Nat}
  {b g : Heap} {m cm : Str → Option Value} {vol : List (Addr × Obj)} {d : Nat} {t u : Tok} {l x y p : List Nat} {Q : Flow → Shared → Prop}

theorem seg18_1 {K : Shared → Prop} {D N : Addr} {its nits : Array Value} {c cn : Nat} {ps : List (List Nat)} {i : Nat} {ti : Tok} (hn : ∀ s', K s' → wpAny (model prog w) A (execs (b18.drop 2) env) Q E s') (V : EnvOk env lawNames L (lawCl L)) (O : Okay w b) (hA : AOk A 3) (S : St b L (lawCl L) h m cm vol)
    (hlen : ps.length ≤ 100) (hi : i < ps.length) (hck : cm (Str.ofString "k") = some (.int (i : Nat) ti))
    (hvd : (D, lst its c) ∈ vol) (had : Are its.toList (ps.map fun p => .b (inf p ps[i]))) (hcd : cm (Str.ofString "held") = some (.ref D))
    (hvn : (N, lst nits cn) ∈ vol) (han : Are nits.toList (ps.map .s)) (hcn : cm (Str.ofString "names") = some (.ref N))
    (hk : ∀ h' tk', St b L (lawCl L) h' m cm vol → K (sh s h' tk')) :
    wpAny (model prog w) A (execs (b18.drop 1) env) Q E (sh s h tk) := by
  have k := Kp.refl h
  have hsz1 : its.size = ps.length := by have := Are.len had; simpa using this
  have hsz2 : nits.size = ps.length := by have := Are.len han; simpa using this
  refine segIn hn ?_
  repeat walk_at "st"
  refine rSlcL (n := i + 1) (by omega) (by omega) (lst_is (S.vols _ hvd)) had (by omega) fun D1 h1 its1 k1 hD1 eD1 ha1 => ?_
  repeat walk_at "st"
  refine rComp _ (fun _ => true) (fun x => .b (inf (v1s x) ps[i])) (closure_of V (by rfl)) (by decide) rfl (by decide) rfl ?_
  have k1' : Kp h h1 := k1
  repeat walk_at "st"
  refine rSlcL (n := i + 1) (by omega) (by omega) (lst_is (k1 _ _ (S.vols _ hvn))) han (by omega) fun D2 h2 its2 k2 hD2 eD2 ha2 => ?_
  have k2' := Kp.trans k1 k2
  refine rIterList hA.hd (lst_is eD2) ha2 fun I h3 k3 hI Wk h0 hfp => ?_
  refine compGo _ _ V k2' S hI k3 Wk h0 hfp (by rw [List.length_take]; simp; omega) (by rfl) (by simp) (hapOf S (by simp) (by simp; decide)) (by simp; decide) ?_ ?_ ?_
  · intro env' C h₃ tk₃ s₃ m₃ E' v x' V' S' hx' hv hmx _
    exact forIn_nil_true ⟨rfl, _, _, rfl, Kp.refl _⟩
  · intro env' C0 h₃ tk₃ s₃ m₃ E' v x' V' S' hx' hv hpx hmx _
    obtain ⟨p, hp, rfl⟩ := List.mem_map.mp (List.mem_of_mem_take hx')
    obtain ⟨t2, rfl⟩ := hv
    replace V' : EnvOk env' [(Str.ofString ".0", .local), (Str.ofString "one", .local), (Str.ofString "IS_CHARACTER_JUNK", .globalImplicit), (Str.ofString "k", .cell), (Str.ofString "names", .cell)] C0 [(Str.ofString "names", L + 1 + 1 + 1 + 1 + 1 + 1 + 1), (Str.ofString "k", L + 1 + 1 + 1 + 1)] := V'
    have k3 := Kp.refl h₃
    obtain ⟨t4, e4⟩ := getS han (n := i) hi
    repeat walk_at "st"
    refine rItem (lst_is (S'.vols _ hvn)) (by omega) (by omega) (by simpa using e4) ?_
    repeat walk_at "st"
    refine junk2 (O.keeps S'.keep) k3 (hA.less (by omega)) fun h4 tk4 k4 => ?_
    exact ⟨rfl, _, _, rfl, k4⟩
  · intro D3 h' tk' ys c3 kD hD3 eD3 hb
    have kk := Kp.trans k2' kD
    have hb2 : Are ys.toList ((ps.map fun p => V1.b (inf p ps[i])).take (i + 1)) := by
      rw [List.filter_eq_self.mpr (by simp), ← List.map_take, List.map_map] at hb
      rw [← List.map_take]
      exact hb
    repeat walk_at "st"
    refine rNeL 2 (lst_is (kD _ _ (k2 _ _ eD1))) ha1 (lst_is eD3) hb2 (hA.less (by omega)) ?_ ?_ ?_ ?_ ?_
    · exact fun x hx => kind_b _ _ x (List.mem_of_mem_take hx)
    · exact fun x hx => kind_b _ _ x (List.mem_of_mem_take hx)
    · exact fun x hx => ok_b _ _ x (List.mem_of_mem_take hx)
    · exact fun x hx => ok_b _ _ x (List.mem_of_mem_take hx)
    rw [eqV_self]
    repeat walk_at "st"
    refine itF' rfl ?_
    repeat walk_at "st"
    exact hk _ _ (S.step kk)

theorem seg18_2 {K : Shared → Prop} {D x dx W P : Addr} {its wits : Array Value} {c cw : Nat} {ps : List (List Nat)} {ws : List Nat} {i : Nat} (hn : ∀ s', K s' → wpAny (model prog w) A (execs (b18.drop 3) env) Q E s') (V : EnvOk env lawNames L (lawCl L)) (O : Okay w b) (hA : AOk A 3) (S : St b L (lawCl L) h m cm vol)
    (hlen : ps.length ≤ 100) (hi : i < ps.length) (hwl : ws.length = ps.length)
    (hvd : (D, lst its c) ∈ vol) (had : Are its.toList (ps.map fun p => .b (inf p ps[i]))) (hcd : cm (Str.ofString "held") = some (.ref D))
    (hvx : (x, instObj 149 dx) ∈ vol) (hvdx : (dx, emptyDict) ∈ vol) (hcx : cm (Str.ofString "finder") = some (.ref x))
    (hvw : (W, lst wits cw) ∈ vol) (haw : Are wits.toList (ws.map fun n => .i (n : Nat))) (hcw : cm (Str.ofString "weights") = some (.ref W))
    (hcP : cm (Str.ofString "places") = some (.ref P))
    (hk : ∀ D its c h' tk', b.get? D = none → Are its.toList ((List.range ps.length).map fun j => .i ((if inf (ps.getD j []) ps[i] then ws.getD j 0 else 0 : Nat) : Int)) → St b L (lawCl L) h' m (fun z => if z = Str.ofString "figures" then some (.ref D) else cm z) ((D, lst its c) :: vol) → K (sh s h' tk')) :
    wpAny (model prog w) A (execs (b18.drop 2) env) Q E (sh s h tk) := by
  have k := Kp.refl h
  have hsz1 : its.size = ps.length := by have := Are.len had; simpa using this
  refine segIn hn ?_
  repeat walk_at "st"
  refine rComp _ (fun _ => true) (fun x => .i ((if inf (ps.getD (v1n x) []) ps[i] then ws.getD (v1n x) 0 else 0 : Nat) : Int)) (closure_of V (by rfl)) (by decide) rfl (by decide) rfl ?_
  repeat walk_at "st"
  refine rLenL (lst_is (S.vols _ hvd)) (by omega) fun t1 tk1 => ?_
  repeat walk_at "st"
  refine rIterRange1 (n := ps.length) (by omega) hA.hd (by omega) fun I h2 tk2 k2 hI Wk h0 => ?_
  refine compGo _ _ V (by assumption) S hI k2 Wk h0 (by simpa using (RgSt.obj h0).elim fun _ e => Heap.lt_size e) (by rw [rng_len]; omega) (by rfl) (by simp) (hapOf S (by simp) (by simp; decide)) (by simp; decide) ?_ ?_ ?_
  · intro env' C h₃ tk₃ s₃ m₃ E' v x' V' S' hx' hv hmx _
    exact forIn_nil_true ⟨rfl, _, _, rfl, Kp.refl _⟩
  · intro env' C0 h₃ tk₃ s₃ m₃ E' v x' V' S' hx' hv hpx hmx _
    obtain ⟨j, hj, rfl⟩ := rng_mem hx'
    obtain ⟨t2, rfl⟩ := hv
    replace V' : EnvOk env' [(Str.ofString ".0", .local), (Str.ofString "i", .local), (Str.ofString "finder", .cell), (Str.ofString "held", .cell), (Str.ofString "places", .cell), (Str.ofString "weights", .cell)] C0 [(Str.ofString "weights", L + 1 + 1 + 1 + 1 + 1 + 1 + 1 + 1 + 1), (Str.ofString "places", L + 1 + 1 + 1 + 1 + 1 + 1 + 1 + 1), (Str.ofString "held", L + 1 + 1 + 1 + 1 + 1 + 1 + 1 + 1 + 1 + 1 + 1), (Str.ofString "finder", L + 1 + 1 + 1 + 1 + 1 + 1 + 1 + 1 + 1 + 1)] := V'
    have k3 := Kp.refl h₃
    have hv1 : v1n (.i ((0 + j : Nat) : Int)) = j := by simp [v1n]
    obtain ⟨v, hv, ev⟩ := Are.get' had (i := j) (x := .b (inf ps[j] ps[i])) (by rw [List.getElem?_map, List.getElem?_eq_getElem hj]; rfl)
    cases ev
    repeat walk_at "st"
    refine rItem (lst_is (S'.vols _ hvd)) (by omega) (by omega) (by simpa using hv) ?_
    repeat walk_at "st"
    have hgd := getD_eq hj
    refine itB (fun hc => ?_) (fun hc => ?_)
    · repeat walk_at "st"
      refine fmt_get (O.keeps S'.keep) k3 (S'.vols _ hvx) (S'.vols _ hvdx) ?_
      refine callWith_F (first := [.ref x]) (fnAtK (O.keeps S'.keep) (by with_unfolding_all rfl)) ?_ (by rfl) (by rfl)
      repeat walk_at "st"
      obtain ⟨v2, hv2, t5, ev2⟩ := Are.get' haw (i := j) (x := .i ((ws[j]'(by omega) : Nat) : Int)) (by rw [List.getElem?_map, List.getElem?_eq_getElem (by omega)]; rfl)
      subst ev2
      refine gv_int (O.keeps S'.keep) k3 (hA.less (by omega)) (lst_is (S'.vols _ hvw)) (by omega) (by simpa using hv2) fun h4 tk4 k4 => ?_
      have hwd : ws.getD j 0 = ws[j]'(by omega) := by rw [List.getD_eq_getElem?_getD, List.getElem?_eq_getElem (by omega)]; rfl
      simp only [hv1, hgd, hc, hwd]
      exact ⟨⟨_, rfl⟩, _, _, rfl, k4⟩
    · repeat walk_at "st"
      simp only [hv1, hgd, hc]
      exact ⟨⟨_, rfl⟩, _, _, rfl, k3⟩
  · intro D3 h' tk' ys c3 kD hD3 eD3 hb
    have kk := Kp.trans (by assumption : Kp h _) kD
    have S2 := S.addV kk hD3 eD3
    have k2 := Kp.refl h'
    repeat walk_at "st"
    (rename St _ _ _ _ _ _ _ => S9)
    refine hk D3 _ _ _ _ (S.blt hD3) ?_ S9
    rw [List.filter_eq_self.mpr (by simp), rng, List.map_map] at hb
    refine cast ?_ hb
    congr 1
    refine List.map_congr_left fun j _ => ?_
    have hv1 : v1n (.i ((0 + j : Nat) : Int)) = j := by simp [v1n]
    show V1.i _ = V1.i _
    rw [hv1]
end
end

section
open PySem PySem.W PyProof.Rows PySem.Calls PySem.SeqAt
set_option maxRecDepth 100000
set_option maxHeartbeats 8000000
section
variable {prog : Program} {w : World} {A : Around} {E : Value → Shared → Prop} {s : Shared} {h : Heap} {tk : Nat} {env : Env} {names : List (Str × NameKind)} {L : Addr} {cl : List (Str × Addr)}
  {b g : Heap} {m cm : Str → Option Value} {vol : List (Addr × Obj)} {d : Nat} {t u : Tok} {l x y : List Nat}
theorem St.perm {vol' : List (Addr × Obj)} (S : St b L cl h m cm vol) (hp : vol'.Perm vol) : St b L cl h m cm vol' :=
  ⟨S.ns, S.keep, S.cell, fun p hm => S.vols p (hp.subset hm), S.sz, S.apart, S.cL, fun p hm => S.vL p (hp.subset hm), fun p hm => S.vc p (hp.subset hm), (hp.map (·.1)).nodup_iff.mpr S.nd, S.ck⟩
/-- no code's record -/
noncomputable def NC (o : Obj) : Prop := ∀ vs, o.data = .fields vs → ∀ q t, vs[1]? ≠ some (.str q t)
theorem NC.lst (its : Array Value) (c : Nat) : NC (lst its c) := fun vs e => by cases e
theorem NC.isLst {o : Obj} {its : Array Value} (x : isLst o its) : NC o := fun vs e => by obtain ⟨_, n, d⟩ := x; rw [d] at e; cases e
theorem NC.tab {pos : Pos} {q : Str} {ps : Array Value} {h : Heap} (x : TabOk pos q h ps) : NC (tabObj ps) := fun vs e q t => by cases e; exact x.noCode
noncomputable def TabV (pos : Pos) (q : Str) (ps : Array Value) (cds : List (Addr × Obj)) : Prop :=
  ps = #[] ∨ ∃ c' oc vs t, ps = #[rawInt pos.line, rawInt pos.col, .ref c'] ∧ (c', oc) ∈ cds ∧ oc.data = .fields vs ∧ vs[1]? = some (.str q t)
theorem TabV.ok {pos : Pos} {q : Str} {ps : Array Value} {cds : List (Addr × Obj)} (x : TabV pos q ps cds) (hv : ∀ p ∈ cds, h.get? p.1 = some p.2) : TabOk pos q h ps :=
  x.imp id fun ⟨c', oc, vs, t, e, hm, hd, hs⟩ => ⟨c', e, c', oc, vs, t, rfl, hv _ hm, hd, hs⟩
theorem TabV.mono {pos : Pos} {q : Str} {ps : Array Value} {cds cds' : List (Addr × Obj)} (x : TabV pos q ps cds) (hs : ∀ p ∈ cds, p ∈ cds') : TabV pos q ps cds' :=
  x.imp id fun ⟨c', oc, vs, t, e, hm, r⟩ => ⟨c', oc, vs, t, e, hs _ hm, r⟩
theorem track {pos : Pos} {q : Str} {ps : Array Value} {front cds mid : List (Addr × Obj)} (S : St b L cl h m cm (front ++ (cds ++ mid))) (x : TabOk pos q h ps) (hf : ∀ p ∈ front, NC p.2) (hm : ∀ p ∈ mid, NC p.2) :
    ∃ cds', TabV pos q ps cds' ∧ (∀ p ∈ cds, p ∈ cds') ∧ St b L cl h m cm (front ++ (cds' ++ mid)) := by
  rcases x with rfl | ⟨c', e, c2, oc, vs, t, e2, ho, hd, hs⟩
  · exact ⟨cds, .inl rfl, fun _ z => z, S⟩
  · cases e2
    by_cases hin : (c', oc) ∈ cds
    · exact ⟨cds, .inr ⟨c', oc, vs, t, e, hin, hd, hs⟩, fun _ z => z, S⟩
    · refine ⟨(c', oc) :: cds, .inr ⟨c', oc, vs, t, e, .head _, hd, hs⟩, fun _ z => .tail _ z, ?_⟩
      have nc : ∀ {o : Obj}, h.get? c' = some o → NC o → False := fun {o} e1 hn => by
        rw [ho] at e1; cases e1
        exact hn vs hd q t hs
      have S1 := S.more ho (fun z => by
          obtain ⟨o, _, _, e1, d1, _⟩ := S.ns
          rw [← z, ho] at e1; cases e1; rw [hd] at d1; cases d1) (fun n c hc z => by
          obtain ⟨o, e1, d1⟩ := S.cell n c (lookup_of_mem_nodup S.ck hc)
          rw [← z, ho] at e1; cases e1; rw [hd] at d1; cases d1) (fun p hp z => by
          have e1 := S.vols p hp
          rw [z] at e1
          rcases List.mem_append.mp hp with hp | hp
          · exact nc e1 (hf p hp)
          · rcases List.mem_append.mp hp with hp | hp
            · rw [ho] at e1
              obtain ⟨pa, po⟩ := p
              simp only at z e1
              subst z; cases e1
              exact hin hp
            · exact nc e1 (hm p hp))
      exact S1.perm List.perm_middle
end
section
variable {prog : Program} {w : World} {A : Around} {E : Value → Shared → Prop} {s : Shared} {h : Heap} {tk : Nat} {env : Env} {L : Nat}
  {b g : Heap} {m cm : Str → Option Value} {vol : List (Addr × Obj)} {d : Nat} {t u : Tok} {l x y p : List Nat} {Q : Flow → Shared → Prop}

theorem seg18_3 {K : Shared → Prop} {F Su : Addr} {fits sits : Array Value} {cf cs : Nat} {ds : List Nat} {xs : List V1} {wd : Nat} {wt : Tok} {pre cds mid : List (Addr × Obj)} {p8 p1 : Array Value} (hn : ∀ s', K s' → wpAny (model prog w) A (execs (b18.drop 4) env) Q E s') (V : EnvOk env lawNames L (lawCl L)) (O : Okay w b) (hA : AOk A 121)
    (S : St b L (lawCl L) h m cm ((pre ++ (Su, lst sits cs) :: (38, tabObj p8) :: (31, tabObj p1) :: []) ++ (cds ++ mid)))
    (hb38 : b.get? 38 = none) (hbS : b.get? Su = none) (t8 : TabV ⟨26, 4, 31, 55⟩ qD2I p8 cds) (t1 : TabV ⟨11, 4, 20, 28⟩ qI2D p1 cds) (hf : ∀ p ∈ pre, NC p.2) (hmid : ∀ p ∈ mid, NC p.2)
    (hw : wd ≤ 200) (hds : ds.length ≤ 100) (hd0 : 0 < ds.length) (hlt : ∀ d ∈ ds, d < 2 ^ wd)
    (hvf : (F, lst fits cf) ∈ pre) (haf : Are fits.toList (ds.map fun n => .i (n : Nat))) (hcf : cm (Str.ofString "figures") = some (.ref F)) (hcw : cm (Str.ofString "width") = some (.int wd wt))
    (hms : m (Str.ofString "sums") = some (.ref Su)) (has : Are sits.toList xs) (hxs : xs.length ≤ 100)
    (hk : ∀ h' tk' p8 cds' its c, TabV ⟨26, 4, 31, 55⟩ qD2I p8 cds' → TabV ⟨11, 4, 20, 28⟩ qI2D p1 cds' → Are its.toList (xs ++ [.i (sv wd ds : Nat)]) →
      St b L (lawCl L) h' m cm ((pre ++ (Su, lst its c) :: (38, tabObj p8) :: (31, tabObj p1) :: []) ++ (cds' ++ mid)) → K (sh s h' tk')) :
    wpAny (model prog w) A (execs (b18.drop 3) env) Q E (sh s h tk) := by
  have k := Kp.refl h
  refine segIn hn ?_
  repeat walk_at "st"
  have hmS : (Su, lst sits cs) ∈ ((pre ++ (Su, lst sits cs) :: (38, tabObj p8) :: (31, tabObj p1) :: []) ++ (cds ++ mid)) := by simp
  have hm8 : (38, tabObj p8) ∈ ((pre ++ (Su, lst sits cs) :: (38, tabObj p8) :: (31, tabObj p1) :: []) ++ (cds ++ mid)) := by simp
  have hmF : (F, lst fits cf) ∈ ((pre ++ (Su, lst sits cs) :: (38, tabObj p8) :: (31, tabObj p1) :: []) ++ (cds ++ mid)) := List.mem_append_left _ (List.mem_append_left _ hvf)
  have hvc : ∀ p ∈ cds, h.get? p.1 = some p.2 := fun p hp => S.vols p (List.mem_append_right _ (List.mem_append_left _ hp))
  refine rGetAppend (S.vols _ hmS) ?_
  repeat walk_at "st"
  have hi : IntsAre fits.toList (ds.map Int.ofNat) := Are.toInts (by rw [List.map_map]; exact haf)
  refine d2i_call hw hds hd0 hlt O S.keep hb38 (hA.less (by omega)) (S.vols _ hm8) (t8.ok hvc) (by simpa using lst_is (S.vols _ hmF)) hi fun h1 tk1 tt p8' e8 eP tab8' => ?_
  have hv : ∀ (q8 : Array Value) (o : Obj) (cds' : List (Addr × Obj)), ((pre ++ (Su, o) :: (38, tabObj q8) :: (31, tabObj p1) :: []) ++ (cds' ++ mid)) = (pre ++ [(Su, o)]) ++ (38, tabObj q8) :: ((31, tabObj p1) :: (cds' ++ mid)) := fun _ _ _ => by simp
  have hv2 : ∀ (q8 : Array Value) (o : Obj) (cds' : List (Addr × Obj)), ((pre ++ (Su, o) :: (38, tabObj q8) :: (31, tabObj p1) :: []) ++ (cds' ++ mid)) = pre ++ (Su, o) :: ((38, tabObj q8) :: (31, tabObj p1) :: (cds' ++ mid)) := fun _ _ _ => by simp
  rw [hv] at S
  have S1 := S.stepB hb38 e8 eP
  rw [← hv] at S1
  have hvc1 : ∀ p ∈ cds, h1.get? p.1 = some p.2 := fun p hp => S1.vols p (List.mem_append_right _ (List.mem_append_left _ hp))
  obtain ⟨cds', t8', hsub, S2⟩ := track S1 tab8' (fun p hp => by
    rcases List.mem_append.mp hp with hp | hp
    · exact hf p hp
    · simp only [List.mem_cons, List.not_mem_nil, or_false] at hp
      rcases hp with rfl | rfl | rfl
      · exact NC.lst _ _
      · exact NC.tab tab8'
      · exact NC.tab (t1.ok hvc1)) hmid
  have k1 := Kp.refl h1
  repeat walk_at "st"
  have hsz : sits.size ≤ 100 := by have := Are.len has; simp at this; omega
  rw [hv2] at S2
  refine rAppend k1 S2 hbS (by omega) fun h2 S3 => ?_
  rw [← hv2] at S3
  repeat walk_at "st"
  refine hk _ _ p8' cds' _ _ t8' (t1.mono hsub) ?_ S3
  rw [Array.toList_push]
  exact has.snoc ⟨_, rfl⟩
end
end

section
open PySem PySem.W PyProof.Rows PySem.Calls PySem.SeqAt
set_option maxRecDepth 100000
set_option maxHeartbeats 8000000
theorem sv_zero (n : Nat) : ∀ l : List Nat, (∀ d ∈ l, d = 0) → sv n l = 0
  | [], _ => rfl
  | d :: r, h => by
    show d + 2 ^ n * sv n r = 0
    rw [h d (.head _), sv_zero n r fun x hx => h x (.tail _ hx)]; simp
theorem sv_take {n : Nat} {ds : List Nat} {i : Nat} (hz : ∀ d ∈ ds.drop i, d = 0) : sv n ds = sv n (ds.take i) := by
  have h := sv_append n (ds.take i) (ds.drop i)
  rw [List.take_append_drop, sv_zero n _ hz] at h
  simpa using h
theorem sum_sv {n : Nat} {ds : List Nat} : ∀ k, k ≤ ds.length → ((List.range k).map fun j => ((ds.getD j 0 : Nat) : Int) * 2 ^ (n * j)).sum = (sv n (ds.take k) : Nat)
  | 0, _ => by simp [sv]
  | k + 1, h => by
    rw [List.range_succ, List.map_append, List.sum_append, sum_sv k (by omega)]
    have e : ds.take (k + 1) = ds.take k ++ [ds.getD k 0] := by
      rw [List.take_add_one, List.getD_eq_getElem?_getD, List.getElem?_eq_getElem (by omega)]; rfl
    rw [e, sv_append, List.length_take, Nat.min_eq_left (by omega)]
    simp only [List.map_cons, List.map_nil, List.sum_cons, List.sum_nil, sv]
    push_cast
    rw [Int.mul_comm]
    simp
section
variable {prog : Program} {w : World} {A : Around} {E : Value → Shared → Prop} {s : Shared} {h : Heap} {tk : Nat} {env : Env} {L : Nat}
  {b g : Heap} {m cm : Str → Option Value} {vol : List (Addr × Obj)} {d : Nat} {t u : Tok} {l x y p : List Nat} {Q : Flow → Shared → Prop}

theorem rSum {D : Addr} {vs : List Value} {ns : List Int} {Q : Value → Shared → Prop} (hh : A.handled = none) (hl : h.IsList D vs.toArray) (hi : IntsAre vs ns) (hq : ∀ h' tk' t', Kp h h' → Q (.int ns.sum t') (sh s h' tk')) :
    wpAny (model prog w) A (call (.builtin "sum") [.ref D]) Q E (sh s h tk) := by
  obtain ⟨xs, hx⟩ := hi.allInts.items
  have hn : numsOf vs.toArray.toList = ns := by rw [show vs.toArray.toList = vs from rfl, hi.numsOf]
  rw [hx] at hl hn
  rw [nums_intItems] at hn
  refine sum_intListG (s := sh s h tk) hh hl fun h' tk' t' hk => ?_
  have z := hq h' tk' t' hk
  rw [preSum_eq, List.take_of_length_le (by simp), hn]
  exact z

theorem seg18_4 {K : Shared → Prop} {F Su : Addr} {fits sits : Array Value} {cf cs : Nat} {ds : List Nat} {xs : List V1} {wd i : Nat} {wt ti : Tok} (hn : ∀ s', K s' → wpAny (model prog w) A (execs (b18.drop 5) env) Q E s') (V : EnvOk env lawNames L (lawCl L)) (O : Okay w b) (hA : AOk A 3)
    (S : St b L (lawCl L) h m cm vol)
    (hw : wd ≤ 200) (hds : ds.length ≤ 100) (hi : i < ds.length) (hlt : ∀ d ∈ ds, d < 2 ^ wd) (hz : ∀ d ∈ ds.drop (i + 1), d = 0)
    (hvf : (F, lst fits cf) ∈ vol) (haf : Are fits.toList (ds.map fun n => .i (n : Nat))) (hcf : cm (Str.ofString "figures") = some (.ref F)) (hcw : cm (Str.ofString "width") = some (.int wd wt)) (hck : cm (Str.ofString "k") = some (.int (i : Nat) ti))
    (hvs : (Su, lst sits cs) ∈ vol) (hms : m (Str.ofString "sums") = some (.ref Su)) (has : Are sits.toList (xs ++ [.i (sv wd ds : Nat)])) (hxs : xs.length = i)
    (hk : ∀ h' tk', St b L (lawCl L) h' m cm vol → K (sh s h' tk')) :
    wpAny (model prog w) A (execs (b18.drop 4) env) Q E (sh s h tk) := by
  have k := Kp.refl h
  refine segIn hn ?_
  obtain ⟨v, hv, t1, ev⟩ := Are.get' has (i := i) (x := .i (sv wd ds : Nat)) (by rw [List.getElem?_append_right (by omega), hxs]; simp)
  subst ev
  repeat walk_at "st"
  refine rItem (lst_is (S.vols _ hvs)) (by omega) (by omega) (by simpa using hv) ?_
  repeat walk_at "st"
  refine rComp _ (fun _ => true) (fun x => .i (((ds.getD (v1n x) 0 : Nat) : Int) * 2 ^ (wd * v1n x))) (closure_of V (by rfl)) (by decide) rfl (by decide) rfl ?_
  repeat walk_at "st"
  refine rIterRange1 (n := i + 1) (by omega) hA.hd (by omega) fun I h2 tk2 k2 hI Wk h0 => ?_
  refine compGo _ _ V (by assumption) S hI k2 Wk h0 (by simpa using (RgSt.obj h0).elim fun _ e => Heap.lt_size e) (by rw [rng_len]; omega) (by rfl) (by simp) (hapOf S (by simp) (by simp; decide)) (by simp; decide) ?_ ?_ ?_
  · intro env' C h₃ tk₃ s₃ m₃ E' v x' V' S' hx' hv hmx _
    exact forIn_nil_true ⟨rfl, _, _, rfl, Kp.refl _⟩
  · intro env' C0 h₃ tk₃ s₃ m₃ E' v x' V' S' hx' hv hpx hmx _
    obtain ⟨j, hj, rfl⟩ := rng_mem hx'
    obtain ⟨t2, rfl⟩ := hv
    replace V' : EnvOk env' [(Str.ofString ".0", .local), (Str.ofString "i", .local), (Str.ofString "figures", .cell), (Str.ofString "width", .cell)] C0 [(Str.ofString "width", L + 1 + 1 + 1), (Str.ofString "figures", L + 1 + 1 + 1 + 1 + 1 + 1 + 1 + 1 + 1 + 1 + 1 + 1)] := V'
    have k3 := Kp.refl h₃
    have hv1 : v1n (.i ((0 + j : Nat) : Int)) = j := by simp [v1n]
    have hjd : j < ds.length := by omega
    obtain ⟨v, hv, t3, ev⟩ := Are.get' haf (i := j) (x := .i ((ds[j] : Nat) : Int)) (by rw [List.getElem?_map, List.getElem?_eq_getElem hjd]; rfl)
    subst ev
    have hdl := hlt _ (List.getElem_mem hjd)
    have hwj : wd * j ≤ 200 * 100 := Nat.mul_le_mul hw (by omega)
    repeat walk_at "st"
    refine rItem (lst_is (S'.vols _ hvf)) (by omega) (by omega) (by simpa using hv) ?_
    repeat walk_at "st"
    refine rMul (IntMulOk.of_left (Nat.le_trans (intBits_lt (k := 8) (by omega)) (by decide))) fun t4 tk4 => ?_
    have e1 : (wd : Int) * ((0 + j : Nat) : Int) = ((wd * j : Nat) : Int) := by rw [Nat.zero_add]; push_cast; rfl
    rw [e1]
    refine rPow (by omega) (by omega) (by decide) fun t5 tk5 => ?_
    rw [Int.toNat_natCast]
    have e2 : (2 : Int) ^ (wd * j) = ((2 ^ (wd * j) : Nat) : Int) := by simp
    refine rMul (IntMulOk.of_bits (Nat.le_trans (intBits_lt hdl) (by omega)) (by rw [e2]; exact Nat.le_trans (intBits_lt (k := wd * j + 1) (Nat.pow_lt_pow_right (by decide) (Nat.lt_succ_self _))) (by omega))) fun t6 tk6 => ?_
    have hg : ds.getD j 0 = ds[j] := by rw [List.getD_eq_getElem?_getD, List.getElem?_eq_getElem hjd]; rfl
    rw [hv1, hg]
    exact ⟨⟨_, rfl⟩, _, _, rfl, k3⟩
  · intro D3 h' tk' ys c3 kD hD3 eD3 hb
    have kk := Kp.trans (by assumption : Kp h _) kD
    have hb2 : IntsAre ys.toList ((List.range (i + 1)).map fun j => ((ds.getD j 0 : Nat) : Int) * 2 ^ (wd * j)) := by
      refine Are.toInts ?_
      rw [List.filter_eq_self.mpr (by simp), rng, List.map_map] at hb
      rw [List.map_map]
      refine cast ?_ hb
      congr 1
      refine List.map_congr_left fun j _ => ?_
      have hv1 : v1n (.i ((0 + j : Nat) : Int)) = j := by simp [v1n]
      show V1.i _ = V1.i _
      rw [hv1]
    repeat walk_at "st"
    refine rSum hA.hd (by simpa using lst_is eD3) hb2 fun h5 tk5 t5 k5 => ?_
    rw [sum_sv (i + 1) (by omega), ← sv_take hz]
    repeat walk_at "st"
    refine itF' (by simp) ?_
    repeat walk_at "st"
    exact hk _ _ (S.step (Kp.trans kk k5))

theorem seg18_5 {K : Shared → Prop} {F Su : Addr} {fits sits : Array Value} {cf cs : Nat} {ds : List Nat} {xs : List V1} {wd i : Nat} {wt ti : Tok} {pre cds mid : List (Addr × Obj)} {p8 p1 : Array Value} (hn : ∀ s', K s' → wpAny (model prog w) A (execs (b18.drop 6) env) Q E s') (V : EnvOk env lawNames L (lawCl L)) (O : Okay w b) (hA : AOk A 121)
    (S : St b L (lawCl L) h m cm ((pre ++ (Su, lst sits cs) :: (38, tabObj p8) :: (31, tabObj p1) :: []) ++ (cds ++ mid)))
    (hb31 : b.get? 31 = none) (t8 : TabV ⟨26, 4, 31, 55⟩ qD2I p8 cds) (t1 : TabV ⟨11, 4, 20, 28⟩ qI2D p1 cds) (hf : ∀ p ∈ pre, NC p.2) (hmid : ∀ p ∈ mid, NC p.2)
    (hw0 : 0 < wd) (hw : wd ≤ 200) (hds : ds.length ≤ 100) (hi : i < ds.length) (hlt : ∀ d ∈ ds, d < 2 ^ wd) (hz : ∀ d ∈ ds.drop (i + 1), d = 0) (hnz : ds[i] ≠ 0)
    (hvf : (F, lst fits cf) ∈ pre) (haf : Are fits.toList (ds.map fun n => .i (n : Nat))) (hcf : cm (Str.ofString "figures") = some (.ref F)) (hcw : cm (Str.ofString "width") = some (.int wd wt)) (hck : cm (Str.ofString "k") = some (.int (i : Nat) ti))
    (hms : m (Str.ofString "sums") = some (.ref Su)) (has : Are sits.toList (xs ++ [.i (sv wd ds : Nat)])) (hxs : xs.length = i)
    (hk : ∀ h' tk' p1 cds', TabV ⟨26, 4, 31, 55⟩ qD2I p8 cds' → TabV ⟨11, 4, 20, 28⟩ qI2D p1 cds' →
      St b L (lawCl L) h' m cm ((pre ++ (Su, lst sits cs) :: (38, tabObj p8) :: (31, tabObj p1) :: []) ++ (cds' ++ mid)) → K (sh s h' tk')) :
    wpAny (model prog w) A (execs (b18.drop 5) env) Q E (sh s h tk) := by
  have k := Kp.refl h
  refine segIn hn ?_
  have hmS : (Su, lst sits cs) ∈ ((pre ++ (Su, lst sits cs) :: (38, tabObj p8) :: (31, tabObj p1) :: []) ++ (cds ++ mid)) := by simp
  have hm1 : (31, tabObj p1) ∈ ((pre ++ (Su, lst sits cs) :: (38, tabObj p8) :: (31, tabObj p1) :: []) ++ (cds ++ mid)) := by simp
  have hmF : ∀ (q1 : Array Value) (cds' : List (Addr × Obj)), (F, lst fits cf) ∈ ((pre ++ (Su, lst sits cs) :: (38, tabObj p8) :: (31, tabObj q1) :: []) ++ (cds' ++ mid)) := fun _ _ => List.mem_append_left _ (List.mem_append_left _ hvf)
  have hvc : ∀ p ∈ cds, h.get? p.1 = some p.2 := fun p hp => S.vols p (List.mem_append_right _ (List.mem_append_left _ hp))
  have hfsz : fits.size = ds.length := by have := Are.len haf; simpa using this
  obtain ⟨v, hv, tv, ev⟩ := Are.get' has (i := i) (x := .i (sv wd ds : Nat)) (by rw [List.getElem?_append_right (by omega), hxs]; simp)
  subst ev
  repeat walk_at "st"
  refine rItem (lst_is (S.vols _ hmS)) (by omega) (by omega) (by simpa using hv) ?_
  repeat walk_at "st"
  rw [sv_take hz]
  have htk : ds.take (i + 1) = ds.take i ++ [ds[i]] := by rw [List.take_add_one, List.getElem?_eq_getElem hi]; rfl
  refine i2d_call hw0 hw (by rw [List.length_take]; omega) (by rw [List.length_take]; omega) (fun d hd => hlt d (List.mem_of_mem_take hd)) ⟨_, _, htk, hnz⟩ O S.keep hb31 (hA.less (by omega)) (S.vols _ hm1) (t1.ok hvc) fun D vs h1 tk1 p1' e1 eP tab1' hD hlD hiD => ?_
  have hv1 : ∀ (q1 : Array Value) (cds' : List (Addr × Obj)), ((pre ++ (Su, lst sits cs) :: (38, tabObj p8) :: (31, tabObj q1) :: []) ++ (cds' ++ mid)) = (pre ++ [(Su, lst sits cs), (38, tabObj p8)]) ++ (31, tabObj q1) :: (cds' ++ mid) := fun _ _ => by simp
  rw [hv1] at S
  have S1 := S.stepB hb31 e1 eP
  rw [← hv1] at S1
  have hvc1 : ∀ p ∈ cds, h1.get? p.1 = some p.2 := fun p hp => S1.vols p (List.mem_append_right _ (List.mem_append_left _ hp))
  obtain ⟨cds', t1', hsub, S2⟩ := track S1 tab1' (fun p hp => by
    rcases List.mem_append.mp hp with hp | hp
    · exact hf p hp
    · simp only [List.mem_cons, List.not_mem_nil, or_false] at hp
      rcases hp with rfl | rfl | rfl
      · exact NC.lst _ _
      · exact NC.tab (t8.ok hvc1)
      · exact NC.tab tab1') hmid
  have k1 := Kp.refl h1
  repeat walk_at "st"
  refine rSlcL (n := i + 1) (by omega) (by omega) (lst_is (S2.vols _ (hmF _ _))) haf (by omega) fun D2 h2 its2 k2 hD2 eD2 ha2 => ?_
  have hlD2 : h2.IsList D vs.toArray := let ⟨o, e, r⟩ := hlD; ⟨o, k2 _ _ e, r⟩
  have haD : Are vs.toArray.toList ((ds.map fun n => V1.i (n : Nat)).take (i + 1)) := by
    have := Are.ints hiD
    rw [List.map_map] at this
    rw [← List.map_take]
    exact this
  refine rNeL 0 hlD2 haD (lst_is eD2) ha2 (hA.less (by omega)) ?_ ?_ ?_ ?_ ?_
  · exact fun x hx => kind_i _ _ x (List.mem_of_mem_take hx)
  · exact fun x hx => kind_i _ _ x (List.mem_of_mem_take hx)
  · exact fun x hx => ok_i _ _ x (List.mem_of_mem_take hx)
  · exact fun x hx => ok_i _ _ x (List.mem_of_mem_take hx)
  rw [eqV_self]
  repeat walk_at "st"
  refine itF' rfl ?_
  repeat walk_at "st"
  exact hk _ _ p1' cds' (t8.mono hsub) t1' (S2.step k2)
end
end

section
open PySem PySem.W PyProof.Rows PySem.Calls PySem.SeqAt
set_option maxRecDepth 100000
set_option maxHeartbeats 8000000
noncomputable def figs (ps : List (List Nat)) (ws : List Nat) (i : Nat) : List Nat := (List.range ps.length).map fun j => if inf (ps.getD j []) (ps.getD i []) then ws.getD j 0 else 0
theorem RgSt.nc {I : Addr} {a n i : Nat} {h : Heap} {o : Obj} (x : RgSt I a n i h) (e : h.get? I = some o) : NC o := by
  have x' : h.get? I = some { cls := .type "range_iterator", data := .fields #[rawInt ((a : Int) + (i : Nat) * 1), rawInt ((n : Int) - (i : Nat)), rawInt 1] } := x
  rw [e] at x'
  cases x'
  intro vs e q t
  cases e
  simp [rawInt]
section
variable {prog : Program} {w : World} {A : Around} {E : Value → Shared → Prop} {s : Shared} {h : Heap} {tk : Nat} {env : Env} {L : Nat}
  {b g : Heap} {m cm : Str → Option Value} {vol : List (Addr × Obj)} {d : Nat} {t u : Tok} {l x y p : List Nat} {Q : Flow → Shared → Prop}

theorem seg18 {K : Shared → Prop} {Su N Wr x dx W P : Addr} {nits wits its0 : Array Value} {cn cw c0 : Nat} {ps : List (List Nat)} {ws : List Nat} {wd : Nat} {wt : Tok} {p8 p1 : Array Value} {cds mid : List (Addr × Obj)} {writs : Array Value} {cwr : Nat}
    (hn : ∀ s', K s' → wpAny (model prog w) A (execs (lawBody.drop 19) env) Q E s') (V : EnvOk env lawNames L (lawCl L)) (O : Okay w b) (hA : AOk A 121)
    (S : St b L (lawCl L) h m cm ((Su, lst #[] 0) :: (38, tabObj p8) :: (31, tabObj p1) :: (cds ++ mid)))
    (hb38 : b.get? 38 = none) (hb31 : b.get? 31 = none) (hbS : b.get? Su = none) (t8 : TabV ⟨26, 4, 31, 55⟩ qD2I p8 cds) (t1 : TabV ⟨11, 4, 20, 28⟩ qI2D p1 cds) (hmid : ∀ p ∈ mid, NC p.2)
    (hw4 : 4 ≤ wd) (hw : wd ≤ 123) (hlen : ps.length ≤ 100) (hwl : ws.length = ps.length) (hws : ∀ x ∈ ws, 0 < x ∧ x < 2 ^ wd)
    (hsort : ∀ i j (hi : i < ps.length) (hj : j < ps.length), i < j → inf ps[j] ps[i] = false)
    (hvn : (N, lst nits cn) ∈ mid) (han : Are nits.toList (ps.map .s)) (hcn : cm (Str.ofString "names") = some (.ref N))
    (hvr : (Wr, lst writs cwr) ∈ mid) (har : Are writs.toList ((ps.map dbl).map .s)) (hcr : cm (Str.ofString "writings") = some (.ref Wr))
    (hvx : (x, instObj 149 dx) ∈ mid) (hvdx : (dx, emptyDict) ∈ mid) (hcx : cm (Str.ofString "finder") = some (.ref x))
    (hvw : (W, lst wits cw) ∈ mid) (haw : Are wits.toList (ws.map fun n => .i (n : Nat))) (hcw : cm (Str.ofString "weights") = some (.ref W))
    (hcP : cm (Str.ofString "places") = some (.ref P)) (hcwd : cm (Str.ofString "width") = some (.int wd wt)) (hms : m (Str.ofString "sums") = some (.ref Su))
    (hk : ∀ h' tk' p8 p1 cds' its c cm', (∀ z, z ≠ Str.ofString "k" → z ≠ Str.ofString "held" → z ≠ Str.ofString "figures" → cm' z = cm z) → Are its.toList ((List.range ps.length).map fun i => .i (sv wd (figs ps ws i) : Nat)) →
      St b L (lawCl L) h' m cm' ((Su, lst its c) :: (38, tabObj p8) :: (31, tabObj p1) :: (cds' ++ mid)) → K (sh s h' tk')) :
    wpAny (model prog w) A (execs (lawBody.drop 18) env) Q E (sh s h tk) := by
  have k := Kp.refl h
  have hsz : nits.size = ps.length := by have := Are.len han; simpa using this
  have inmid : ∀ {p : Addr × Obj} {fr cds' : List (Addr × Obj)}, p ∈ mid → p ∈ fr ++ (cds' ++ mid) := fun hp => List.mem_append_right _ (List.mem_append_right _ hp)
  refine segIn hn ?_
  repeat walk_at "st"
  refine rLenL (lst_is (S.vols _ (inmid (fr := [_, _, _]) hvn))) (by omega) fun t1' tk1 => ?_
  repeat walk_at "st"
  refine rIterRange1 (n := ps.length) (by omega) hA.hd (by omega) fun I h2 tk2 k2 hI Wk h0 => ?_
  refine forGo2 (fun i h m' cm' vol' => ∃ p8 p1 cds its c, vol' = (Su, lst its c) :: (38, tabObj p8) :: (31, tabObj p1) :: (cds ++ mid) ∧ TabV ⟨26, 4, 31, 55⟩ qD2I p8 cds ∧ TabV ⟨11, 4, 20, 28⟩ qI2D p1 cds ∧
      Are its.toList ((List.range i).map fun i => .i (sv wd (figs ps ws i) : Nat)) ∧ m' = m ∧ (∀ z, z ≠ Str.ofString "k" → z ≠ Str.ofString "held" → z ≠ Str.ofString "figures" → cm' z = cm z))
    k S hI k2 Wk h0 (fun _ _ => RgSt.obj) ⟨p8, p1, cds, _, _, rfl, t8, t1, .nil, rfl, fun _ _ _ _ => rfl⟩ (fun _ _ _ _ _ _ z _ _ => z) ?_ ?_
  · intro i x' v o h tk m' cm' vol' hx hv hJ S1 hW Q' E' hQ'
    obtain ⟨p8, p1, cds, its, c, rfl, t8, t1, ha, rfl, hcm⟩ := hJ
    have S := S1
    obtain ⟨hi, rfl⟩ := rng_inv hx
    obtain ⟨t2, rfl⟩ := hv
    have hNI : NC o := RgSt.nc hW (S.vols (I, o) (.head _))
    have k := Kp.refl h
    have z1 : ∀ {z : Str} {v : Option Value}, cm z = v → z ≠ Str.ofString "k" → z ≠ Str.ofString "held" → z ≠ Str.ofString "figures" → cm' z = v := fun e a b c => (hcm _ a b c).trans e
    have hgi : ps.getD i [] = ps[i] := getD_eq hi
    have hfl : (figs ps ws i).length = ps.length := by simp [figs]
    have hflt : ∀ d ∈ figs ps ws i, d < 2 ^ wd := by
      intro d hd
      obtain ⟨j, hj, rfl⟩ := List.mem_map.mp hd
      have hj' := List.mem_range.mp hj
      split
      · rw [List.getD_eq_getElem?_getD, List.getElem?_eq_getElem (by omega)]
        exact (hws _ (List.getElem_mem _)).2
      · exact Nat.two_pow_pos _
    have hfz : ∀ d ∈ (figs ps ws i).drop (i + 1), d = 0 := by
      intro d hd
      obtain ⟨j, hj, e⟩ := List.getElem_of_mem hd
      rw [List.getElem_drop] at e
      rw [List.length_drop, hfl] at hj
      subst e
      simp only [figs, List.getElem_map, List.getElem_range]
      rw [hgi, getD_eq (by omega), hsort i (i + 1 + j) hi (by omega) (by omega)]
      rfl
    have hfn : (figs ps ws i)[i]'(by rw [hfl]; exact hi) ≠ 0 := by
      simp only [figs, List.getElem_map, List.getElem_range]
      rw [hgi, (inf_iff ps[i] ps[i]).mpr (List.infix_refl _), if_pos rfl, List.getD_eq_getElem?_getD, List.getElem?_eq_getElem (by omega)]
      exact Nat.ne_of_gt (hws _ (List.getElem_mem _)).1
    repeat (first | with_reducible refine wpAny_assign_Name ?_ | ((with_reducible refine' stC ?V ?k ?S ?a ?c ?l ?_); (case V => assumption); (case k => assumption); (case S => assumption); (case a => rfl); (case c => rfl); (case l => walk_at "st_le"); intro h' S'))
    (rename St _ _ _ _ _ _ _ => S2)
    refine seg18_0 (i := i) (ti := t2) (K := fun s' => wpAny _ _ (execs (b18.drop 1) env) _ _ s') (fun _ z => z) V O (hA.less (by omega)) S2 hlen hi (inmid (fr := [_, _, _, _]) hvr) har (z1 hcr (by decide) (by decide) (by decide)) (by rw [Nat.zero_add]; rfl) fun Dh ith ch h3 tk3 hbDh haDh S3 => ?_
    refine seg18_1 (i := i) (ti := t2) (K := fun s' => wpAny _ _ (execs (b18.drop 2) env) _ _ s') (fun _ z => z) V O (hA.less (by omega)) S3 hlen hi (by rw [Nat.zero_add]; rfl) (.head _) haDh rfl (inmid (fr := [_, _, _, _, _]) hvn) han (z1 hcn (by decide) (by decide) (by decide)) fun h4 tk4 S4 => ?_
    refine seg18_2 (i := i) (K := fun s' => wpAny _ _ (execs (b18.drop 3) env) _ _ s') (fun _ z => z) V O (hA.less (by omega)) S4 hlen hi hwl (.head _) haDh rfl (inmid (fr := [_, _, _, _, _]) hvx) (inmid (fr := [_, _, _, _, _]) hvdx) (z1 hcx (by decide) (by decide) (by decide)) (inmid (fr := [_, _, _, _, _]) hvw) haw (z1 hcw (by decide) (by decide) (by decide)) (z1 hcP (by decide) (by decide) (by decide)) fun Df itf cf h5 tk5 hbDf haDf S5 => ?_
    have haF : Are itf.toList ((figs ps ws i).map fun n => .i (n : Nat)) := by rw [figs, List.map_map, hgi]; exact haDf
    have hNF : ∀ p ∈ [(Df, lst itf cf), (Dh, lst ith ch), (I, o)], NC p.2 := by
      intro p hp
      simp only [List.mem_cons, List.not_mem_nil, or_false] at hp
      rcases hp with rfl | rfl | rfl
      · exact NC.lst _ _
      · exact NC.lst _ _
      · exact hNI
    have hl0 : 0 < (figs ps ws i).length := by rw [hfl]; omega
    refine seg18_3 (pre := [(Df, lst itf cf), (Dh, lst ith ch), (I, o)]) (K := fun s' => wpAny _ _ (execs (b18.drop 4) env) _ _ s') (fun _ z => z) V O hA S5 hb38 hbS t8 t1 hNF hmid (by omega) (by omega) hl0 hflt (.head _) haF rfl (z1 hcwd (by decide) (by decide) (by decide)) hms ha (by simp; omega) fun h6 tk6 p8' cds6 its6 c6 t8' t1' ha6 S6 => ?_
    refine seg18_4 (i := i) (ti := t2) (K := fun s' => wpAny _ _ (execs (b18.drop 5) env) _ _ s') (fun _ z => z) V O (hA.less (by omega)) S6 (by omega) (by omega) (by omega) hflt hfz (.head _) haF rfl (z1 hcwd (by decide) (by decide) (by decide)) (by rw [Nat.zero_add]; rfl) (.tail _ (.tail _ (.tail _ (.head _)))) hms ha6 (by simp) fun h7 tk7 S7 => ?_
    refine seg18_5 (i := i) (ti := t2) (pre := [(Df, lst itf cf), (Dh, lst ith ch), (I, o)]) (K := fun s' => wpAny _ _ (execs (b18.drop 6) env) _ _ s') (fun _ z => z) V O hA S7 hb31 t8' t1' hNF hmid (by omega) (by omega) (by omega) (by omega) hflt hfz hfn (.head _) haF rfl (z1 hcwd (by decide) (by decide) (by decide)) (by rw [Nat.zero_add]; rfl) hms ha6 (by simp) fun h8 tk8 p1' cds8 t8'' t1'' S8 => ?_
    refine wpAny_execs_nil ?_
    refine hQ' .next _ (TurnP.next ?_ (S8.sub (List.Sublist.cons _ (List.Sublist.cons _ (List.Sublist.refl _)))))
    refine ⟨p8', p1', cds8, its6, c6, rfl, t8'', t1'', ?_, rfl, fun z a b c => ?_⟩
    · rw [List.range_succ, List.map_append]; exact ha6
    · simp only [if_neg a, if_neg b, if_neg c]; exact hcm z a b c
  · rintro h tk m' cm' vol' ⟨p8, p1, cds, its, c, rfl, t8, t1, ha, rfl, hcm⟩ S
    rw [rng_len] at ha
    exact wpAny_execs_nil (hk _ _ _ _ _ _ _ _ hcm ha S)
end
end

section
open PySem PySem.W PyProof.Rows PySem.Calls PySem.SeqAt
set_option maxRecDepth 100000
set_option maxHeartbeats 8000000
section
variable {prog : Program} {w : World} {A : Around} {E : Value → Shared → Prop} {s : Shared} {h : Heap} {tk : Nat} {env : Env} {L : Nat}
  {b g : Heap} {m cm : Str → Option Value} {vol : List (Addr × Obj)} {d : Nat} {t u : Tok} {l x y p : List Nat} {Q : Flow → Shared → Prop}

theorem mul_T : ∀ (n : Nat) (l : List Nat), l.length ≤ 1 → Txt.mul (T l) (n : Int) = T (List.replicate n l).flatten := by
  intro n l hl
  unfold Txt.mul
  by_cases h1 : (n : Int) < 1
  · rw [if_pos h1]
    have : n = 0 := by omega
    subst this; rfl
  · rw [if_neg h1]
    split
    · rename_i h2
      rw [Bool.or_eq_true, beq_iff_eq, beq_iff_eq] at h2
      rcases h2 with h2 | h2
      · have : n = 1 := by omega
        subst this; simp
      · have : l = [] := List.eq_nil_of_length_eq_zero h2
        subst this; simp
    · have e : ∀ (n : Nat) (a : Array Nat), (List.replicate n l.toArray).foldl (· ++ ·) a = a ++ (List.replicate n l).flatten.toArray := by
        intro n
        induction n with
        | zero => intro a; simp
        | succ n ih => intro a; rw [List.replicate_succ, List.foldl_cons, ih, List.replicate_succ, List.flatten_cons]; simp
      rw [Int.toNat_natCast]
      show (⟨_⟩ : Str) = ⟨_⟩
      have := e n #[]
      rw [show (T l).cps = l.toArray from rfl, this]
      simp
theorem rMulS {i : Int} {n : Nat} {Q : Value → Shared → Prop} (hi : i = n) (hn : n ≤ 100) (hl : l.length ≤ 1) (hq : ∀ t' tk', Q (.str (T (List.replicate n l).flatten) t') (sh s h tk')) :
    wpAny (model prog w) A (binaryOp .Mult (.str (T l) t) (.int i u)) Q E (sh s h tk) := by
  subst hi
  refine SB.mul (s := sh s h tk) ⟨?_, ?_, ?_⟩ fun t' k => ?_
  · simp; omega
  · intro h1 h2
    rw [T_len]
    have : (2 ^ 63 - 1 : Int) / n ≥ 1 := by
      have h3 : (1 : Int) ≤ n := by omega
      exact (Int.le_ediv_iff_mul_le (by omega)).mpr (by omega)
    omega
  · intro h1 h2
    rw [T_len, Int.toNat_natCast]
    have : l.length * n ≤ 1 * 100 := Nat.mul_le_mul hl hn
    have h3 := small_size (n := l.length * n) (by omega)
    unfold Builtin.Str.tooLong
    simp; omega
  · rw [mul_T n l hl]; exact hq _ _
end
end

section
open PySem PySem.W PyProof.Rows PySem.Calls PySem.SeqAt
set_option maxRecDepth 100000
set_option maxHeartbeats 8000000
/-- what the last loop has to hand -/
structure Cx (prog : Program) (w : World) (ps : List (List Nat)) (ws : List Nat) (wd : Nat) (Sg : List Nat → Int) (vol : List (Addr × Obj)) (m cm : Str → Option Value) (Su N W P x dx : Addr) : Prop where
  hlen : ps.length ≤ 100
  n5 : ∀ p ∈ ps, p.length ≤ 5
  nd : ps.Nodup
  fac : ∀ p ∈ ps, ∀ q, q <:+: p → q ∈ ps
  names : ∃ its c, (N, lst its c) ∈ vol ∧ Are its.toList (ps.map .s)
  sums : ∃ its c, (Su, lst its c) ∈ vol ∧ Are its.toList (ps.map fun q => .i (Sg q))
  fmt : (x, instObj 149 dx) ∈ vol
  fmd : (dx, emptyDict) ∈ vol
  wl : ws.length = ps.length
  wlt : ∀ x ∈ ws, x < 2 ^ wd
  w2 : wd ≤ 123
  wts : ∃ its c, (W, lst its c) ∈ vol ∧ Are its.toList (ws.map fun n => .i (n : Nat))
  plc : ∃ oP τ, (P, oP) ∈ vol ∧ oP.IsDictOf (PySem.strKind prog w) (prs ps τ ps.length)
  cN : cm (Str.ofString "names") = some (.ref N)
  cW : cm (Str.ofString "weights") = some (.ref W)
  cP : cm (Str.ofString "places") = some (.ref P)
  cX : cm (Str.ofString "finder") = some (.ref x)
  cD : ∃ t, cm (Str.ofString "width") = some (.int wd t)
  mS : m (Str.ofString "sums") = some (.ref Su)
theorem Cx.to {prog : Program} {w : World} {ps : List (List Nat)} {ws : List Nat} {wd : Nat} {Sg : List Nat → Int} {vol vol' : List (Addr × Obj)} {m m' cm cm' : Str → Option Value} {Su N W P x dx : Addr} (C : Cx prog w ps ws wd Sg vol m cm Su N W P x dx)
    (hv : ∀ p ∈ vol, p ∈ vol') (hm : m' (Str.ofString "sums") = m (Str.ofString "sums")) (hc : ∀ z, z ≠ Str.ofString "k" → cm' z = cm z) : Cx prog w ps ws wd Sg vol' m' cm' Su N W P x dx :=
  { C with
    names := let ⟨a, b, c, d⟩ := C.names; ⟨a, b, hv _ c, d⟩
    sums := let ⟨a, b, c, d⟩ := C.sums; ⟨a, b, hv _ c, d⟩
    fmt := hv _ C.fmt
    fmd := hv _ C.fmd
    wts := let ⟨a, b, c, d⟩ := C.wts; ⟨a, b, hv _ c, d⟩
    plc := let ⟨a, b, c, d⟩ := C.plc; ⟨a, b, hv _ c, d⟩
    cN := (hc _ (by decide)).trans C.cN
    cW := (hc _ (by decide)).trans C.cW
    cP := (hc _ (by decide)).trans C.cP
    cX := (hc _ (by decide)).trans C.cX
    cD := let ⟨t, e⟩ := C.cD; ⟨t, (hc _ (by decide)).trans e⟩
    mS := hm.trans C.mS }
section
variable {prog : Program} {w : World} {A : Around} {E : Value → Shared → Prop} {s : Shared} {h : Heap} {tk : Nat} {env : Env} {L : Nat}
  {b g : Heap} {m cm : Str → Option Value} {vol : List (Addr × Obj)} {d : Nat} {t u : Tok} {l p : List Nat} {Q : Flow → Shared → Prop} {ps : List (List Nat)} {ws : List Nat} {wd : Nat} {Sg : List Nat → Int} {Su N W P x dx : Addr}

theorem fgv {value slice : Expr} {D : Addr} {its : Array Value} {c : Nat} {qs : List (List Nat)} {F : List Nat → Int} {q : List Nat} {Q : Value → Shared → Prop} (C : Cx prog w ps ws wd Sg vol m cm Su N W P x dx) (O : Okay w b) (hA : AOk A 2) (k : Kp g h) (S : St b L (lawCl L) g m cm vol)
    (hD : (D, lst its c) ∈ vol) (ha : Are its.toList (qs.map fun q => .i (F q))) (hq : ∃ j, ∃ h1 : j < ps.length, ∃ h2 : j < qs.length, ps[j] = q ∧ qs[j] = q)
    (hQ : ∀ h' tk' t', Kp g h' → Q (.int (F q) t') (sh s h' tk'))
    (hs : ∀ i u, subscripted slice false (.ref D) (.int i u) = operate [.ref D, .int i u] (getItem (.ref D) (.int i u)) := by intro _ _; with_unfolding_all rfl) :
    wpAny (model prog w) A (call (.ref 111) [.ref x, .str (T q) t, .ref W, .ref P]) (fun v s₁ => wpAny (model prog w) A (subscriptTail value slice (.ref D) v) Q E s₁) E (sh s h tk) := by
  obtain ⟨j, h1, h2, e1, e2⟩ := hq
  obtain ⟨oP, τ, hP, hd⟩ := C.plc
  have hlen := C.hlen
  have S' := S.step k
  refine gv_str O S'.keep hA (Heap.dictOf_iff.mpr ⟨oP, S'.vols _ hP, hd⟩) (by rw [← e1]; exact prs_at C.nd h1) fun h3 tk3 k3 => ?_
  obtain ⟨v, hv, t1, ev⟩ := Are.get' ha (i := j) (x := .i (F q)) (by rw [List.getElem?_map, List.getElem?_eq_getElem h2, e2]; rfl)
  subst ev
  refine rItem (lst_is (k3 _ _ (S'.vols _ hD))) (by omega) (by omega) (by simpa using hv) ?_ (hs _ _)
  exact hQ _ _ _ (Kp.trans k k3)
theorem Cx.at {q : List Nat} (C : Cx prog w ps ws wd Sg vol m cm Su N W P x dx) (hq : q ∈ ps) : ∃ j, ∃ h1 : j < ps.length, ∃ h2 : j < ps.length, ps[j] = q ∧ ps[j] = q :=
  let ⟨j, h, e⟩ := List.getElem_of_mem hq; ⟨j, h, h, e, e⟩

theorem seg20_0 {K : Shared → Prop} {i : Nat} {ti : Tok} (hn : ∀ s', K s' → wpAny (model prog w) A (execs (b20.drop 1) env) Q E s') (V : EnvOk env lawNames L (lawCl L)) (O : Okay w b) (S : St b L (lawCl L) h m cm vol) (C : Cx prog w ps ws wd Sg vol m cm Su N W P x dx)
    (hi : i < ps.length) (hck : cm (Str.ofString "k") = some (.int (i : Nat) ti))
    (hk : ∀ h' tk' t, St b L (lawCl L) h' (fun z => if z = Str.ofString "part" then some (.str (T ps[i]) t) else m z) cm vol → K (sh s h' tk')) :
    wpAny (model prog w) A (execs b20 env) Q E (sh s h tk) := by
  have k := Kp.refl h
  obtain ⟨nits, cn, hvn, han⟩ := C.names
  have hlen := C.hlen
  have hcN := C.cN
  refine segIn hn ?_
  obtain ⟨t1, e1⟩ := getS han hi
  repeat walk_at "st"
  refine rItem (lst_is (S.vols _ hvn)) (by omega) (by omega) (by simpa using e1) ?_
  repeat walk_at "st"
  (rename St _ _ _ _ _ _ _ => S9)
  exact hk _ _ _ S9

theorem seg20_1 {K : Shared → Prop} {i : Nat} {ti : Tok} (hn : ∀ s', K s' → wpAny (model prog w) A (execs (b20.drop 2) env) Q E s') (V : EnvOk env lawNames L (lawCl L)) (O : Okay w b) (S : St b L (lawCl L) h m cm vol) (C : Cx prog w ps ws wd Sg vol m cm Su N W P x dx)
    (hi : i < ps.length) (hck : cm (Str.ofString "k") = some (.int (i : Nat) ti))
    (hk : ∀ h' tk' t, St b L (lawCl L) h' (fun z => if z = Str.ofString "number" then some (.int (Sg ps[i]) t) else m z) cm vol → K (sh s h' tk')) :
    wpAny (model prog w) A (execs (b20.drop 1) env) Q E (sh s h tk) := by
  have k := Kp.refl h
  obtain ⟨sits, cs, hvs, has⟩ := C.sums
  have hlen := C.hlen
  have hmS := C.mS
  refine segIn hn ?_
  obtain ⟨v, hv, t1, ev⟩ := Are.get' has (i := i) (x := .i (Sg ps[i])) (by rw [List.getElem?_map, List.getElem?_eq_getElem hi]; rfl)
  subst ev
  repeat walk_at "st"
  refine rItem (lst_is (S.vols _ hvs)) (by omega) (by omega) (by simpa using hv) ?_
  repeat walk_at "st"
  (rename St _ _ _ _ _ _ _ => S9)
  exact hk _ _ _ S9

theorem seg20_2 {K : Shared → Prop} {p : List Nat} {n0 : Int} (hn : ∀ s', K s' → wpAny (model prog w) A (execs (b20.drop 3) env) Q E s') (V : EnvOk env lawNames L (lawCl L)) (O : Okay w b) (hA : AOk A 3) (S : St b L (lawCl L) h m cm vol) (C : Cx prog w ps ws wd Sg vol m cm Su N W P x dx)
    (hp : p ∈ ps) (hmp : ∃ t, m (Str.ofString "part") = some (.str (T p) t)) (hmn : ∃ t, m (Str.ofString "number") = some (.int n0 t))
    (hk : ∀ h' tk' m', (∀ z, z ≠ Str.ofString "number" → m' z = m z) → (∃ t, m' (Str.ofString "number") = some (.int (if p = [] then n0 else n0 - Sg p.tail) t)) → St b L (lawCl L) h' m' cm vol → K (sh s h' tk')) :
    wpAny (model prog w) A (execs (b20.drop 2) env) Q E (sh s h tk) := by
  have k := Kp.refl h
  obtain ⟨sits, cs, hvs, has⟩ := C.sums
  have hlen := C.hlen
  have hmS := C.mS
  have hcX := C.cX
  have hcW := C.cW
  have hcP := C.cP
  obtain ⟨tp, hmp⟩ := hmp
  obtain ⟨tn, hmn⟩ := hmn
  have hl5 := C.n5 _ hp
  have hl : p.length ≤ 1000 := by omega
  refine segIn hn ?_
  repeat walk_at "st"
  refine itB (fun hc => ?_) (fun hc => ?_)
  · have hne : p ≠ [] := by simpa using hc
    repeat walk_at "st"
    refine fmt_get (O.keeps S.keep) k (S.vols _ C.fmt) (S.vols _ C.fmd) ?_
    refine callWith_F (first := [.ref x]) (fnAtK (O.keeps S.keep) (by with_unfolding_all rfl)) ?_ (by rfl) (by rfl)
    repeat walk_at "st"
    rw [show slc p (some 1) none = p.tail from (slc_from p 1).trans (by simp)]
    (rename Kp _ _ => k3)
    refine fgv C O (hA.less (by omega)) k3 S hvs has (C.at (C.fac _ hp _ (List.tail_suffix p).isInfix)) fun h' tk' t' k4 => ?_
    refine rISub fun t5 tk5 => ?_
    repeat walk_at "st"
    (rename St _ _ _ _ _ _ _ => S9)
    refine hk _ _ _ (fun z hz => if_neg hz) ⟨t5, ?_⟩ S9
    rw [if_neg hne]; rfl
  · have hne : p = [] := by simpa using hc
    repeat walk_at "st"
    exact hk _ _ _ (fun z hz => rfl) ⟨tn, by rw [if_pos hne]; exact hmn⟩ S
end
end

section
open PySem PySem.W PyProof.Rows PySem.Calls PySem.SeqAt
set_option maxRecDepth 100000
set_option maxHeartbeats 8000000
noncomputable def pow (p : List Nat) : List Nat := (List.replicate p.length (p.take 1)).flatten
noncomputable def bdr (p : List Nat) : List Nat := p.take ((sizes p).getLast?.getD 0)
theorem sizes_ne {p : List Nat} (h : p ≠ []) : ∃ z, (sizes p).getLast? = some z ∧ z < p.length ∧ p.take z = p.drop (p.length - z) := by
  have h0 : 0 < p.length := List.length_pos_iff.mpr h
  have hm : 0 ∈ sizes p := by
    unfold sizes
    rw [List.mem_filter]
    exact ⟨List.mem_range.mpr h0, by simp⟩
  cases q : (sizes p).getLast? with
  | none => rw [List.getLast?_eq_none_iff] at q; rw [q] at hm; cases hm
  | some z =>
    have hz := List.mem_of_getLast? q
    unfold sizes at hz
    rw [List.mem_filter] at hz
    exact ⟨z, rfl, List.mem_range.mp hz.1, by simpa using hz.2⟩
theorem pow_small {p : List Nat} (h : p ≠ pow p) : 2 ≤ p.length := by
  match p, h with
  | [], h => exact absurd rfl h
  | [c], h => exact absurd rfl h
  | a :: b :: r, _ => simp
section
variable {prog : Program} {w : World} {A : Around} {E : Value → Shared → Prop} {s : Shared} {h : Heap} {tk : Nat} {env : Env} {L : Nat}
  {b g : Heap} {m cm : Str → Option Value} {vol : List (Addr × Obj)} {d : Nat} {t u : Tok} {l p : List Nat} {Q : Flow → Shared → Prop} {ps : List (List Nat)} {ws : List Nat} {wd : Nat} {Sg : List Nat → Int} {Su N W P x dx : Addr}

theorem seg20_3 {K : Shared → Prop} {p : List Nat} {n0 : Int} {Lf : Addr} {lits : Array Value} {lc i : Nat} {Xg : List Nat → Int} (hn : ∀ s', K s' → wpAny (model prog w) A (execs (b20.drop 4) env) Q E s') (V : EnvOk env lawNames L (lawCl L)) (O : Okay w b) (hA : AOk A 3) (S : St b L (lawCl L) h m cm vol) (C : Cx prog w ps ws wd Sg vol m cm Su N W P x dx)
    (hp : p ∈ ps) (hmp : ∃ t, m (Str.ofString "part") = some (.str (T p) t)) (hmn : ∃ t, m (Str.ofString "number") = some (.int n0 t))
    (hvl : (Lf, lst lits lc) ∈ vol) (hal : Are lits.toList ((ps.take i).map fun q => .i (Xg q))) (hml : m (Str.ofString "left") = some (.ref Lf))
    (hlt : ∀ q ∈ ps, q.length < p.length → ∃ j, ∃ h : j < ps.length, j < i ∧ ps[j] = q)
    (hk : ∀ h' tk' m', (∀ z, z ≠ Str.ofString "number" → z ≠ Str.ofString "border" → m' z = m z) →
      (∃ t, m' (Str.ofString "number") = some (.int (if p = pow p then n0 else if inf (bdr p) p.tail.dropLast = true then n0 + Sg p.tail.dropLast - Sg p.dropLast else n0 + Sg p.tail.dropLast - Sg p.dropLast + Xg (bdr p)) t)) → St b L (lawCl L) h' m' cm vol → K (sh s h' tk')) :
    wpAny (model prog w) A (execs (b20.drop 3) env) Q E (sh s h tk) := by
  have k := Kp.refl h
  obtain ⟨sits, cs, hvs, has⟩ := C.sums
  have hlen := C.hlen
  have hmS := C.mS
  have hcX := C.cX
  have hcW := C.cW
  have hcP := C.cP
  obtain ⟨tp, hmp⟩ := hmp
  obtain ⟨tn, hmn⟩ := hmn
  have hl5 := C.n5 _ hp
  have hl : p.length ≤ 1000 := by omega
  refine segIn hn ?_
  repeat walk_at "st"
  rw [show slc p none (some 1) = p.take 1 from slc_to p 1]
  refine rMulS rfl (by omega) (by rw [List.length_take]; omega) fun t1 tk1 => ?_
  repeat walk_at "st"
  refine itB (fun hc => ?_) (fun hc => ?_)
  · have hne : p ≠ pow p := by simpa [pow] using hc
    have h2 := pow_small hne
    obtain ⟨z, hz, hzl, hzb⟩ := sizes_ne (p := p) (by rintro rfl; simp at h2)
    have hbd : bdr p = p.take z := by unfold bdr; rw [hz]; rfl
    have hbl : (p.take z).length = z := by rw [List.length_take]; omega
    have hml' : p.tail.dropLast.length = p.length - 2 := by rw [List.length_dropLast, List.length_tail]; omega
    have hbin : p.take z ∈ ps := C.fac _ hp _ (List.take_prefix _ _).isInfix
    have hmin : p.tail.dropLast ∈ ps := C.fac _ hp _ ((List.dropLast_prefix _).isInfix.trans (List.tail_suffix p).isInfix)
    have hiin : p.dropLast ∈ ps := C.fac _ hp _ (List.dropLast_prefix p).isInfix
    repeat walk_at "st"
    (rename Kp _ _ => k3)
    refine border_call (O.keeps S.keep) k3 (hA.less (by omega)) hl5 hz fun t2 h4 tk4 k4 => ?_
    have k5 := Kp.trans k3 k4
    repeat walk_at "st"
    (rename St _ _ _ _ _ _ _ => S2)
    (rename Kp _ _ => k6)
    refine fmt_get (O.keeps S2.keep) k6 ((S2.step k6).vols _ C.fmt) ((S2.step k6).vols _ C.fmd) ?_
    refine callWith_F (first := [.ref x]) (fnAtK (O.keeps (S2.step k6).keep) (by with_unfolding_all rfl)) ?_ (by rfl) (by rfl)
    repeat walk_at "st"
    have C2 := C.to (m' := fun z_1 => if z_1 = Str.ofString "border" then some (.str (T (p.take z)) t2) else m z_1) (cm' := cm) (fun _ q => q) rfl (fun _ _ => rfl)
    (rename Kp _ _ => k7)
    rw [slc_1m1 p]
    refine fgv C2 O (hA.less (by omega)) k7 S2 hvs has (C.at hmin) fun h8 tk8 t8 k8 => ?_
    refine rIAdd fun t9 tk9 => ?_
    repeat walk_at "st"
    (rename St _ _ _ _ _ _ _ => S3)
    (rename Kp _ _ => k9)
    refine fmt_get (O.keeps S3.keep) k9 ((S3.step k9).vols _ C.fmt) ((S3.step k9).vols _ C.fmd) ?_
    refine callWith_F (first := [.ref x]) (fnAtK (O.keeps (S3.step k9).keep) (by with_unfolding_all rfl)) ?_ (by rfl) (by rfl)
    repeat walk_at "st"
    have C3 := C2.to (m' := fun y => if y = Str.ofString "number" then some (.int (n0 + Sg p.tail.dropLast) t9) else if y = Str.ofString "border" then some (.str (T (p.take z)) t2) else m y) (cm' := cm) (fun _ q => q) rfl (fun _ _ => rfl)
    (rename Kp _ _ => k10)
    rw [slc_m1 p]
    refine fgv C3 O (hA.less (by omega)) k10 S3 hvs has (C.at hiin) fun h11 tk11 t11 k11 => ?_
    refine rISub fun t12 tk12 => ?_
    repeat walk_at "st"
    (rename St _ _ _ _ _ _ _ => S4)
    refine PyProof.Rows.isTrue_not ?_
    repeat walk_at "st"
    rw [slc_1m1 p]
    (rename Kp _ _ => k12)
    refine between_call (O.keeps S4.keep) k12 (hA.less (by omega)) (by omega) (by omega) fun h13 tk13 k13 => ?_
    have k14 := Kp.trans k12 k13
    repeat walk_at "st"
    refine itB (fun hc2 => ?_) (fun hc2 => ?_)
    · have hinf : inf (bdr p) p.tail.dropLast = false := by rw [hbd]; simpa using hc2
      repeat walk_at "st"
      refine fmt_get (O.keeps S4.keep) k14 ((S4.step k14).vols _ C.fmt) ((S4.step k14).vols _ C.fmd) ?_
      refine callWith_F (first := [.ref x]) (fnAtK (O.keeps (S4.step k14).keep) (by with_unfolding_all rfl)) ?_ (by rfl) (by rfl)
      repeat walk_at "st"
      have C4 := C3.to (m' := fun y => if y = Str.ofString "number" then some (.int (n0 + Sg p.tail.dropLast - Sg p.dropLast) t12) else if y = Str.ofString "number" then some (.int (n0 + Sg p.tail.dropLast) t9) else if y = Str.ofString "border" then some (.str (T (p.take z)) t2) else m y) (cm' := cm) (fun _ q => q) rfl (fun _ _ => rfl)
      obtain ⟨j, hj, hji, hje⟩ := hlt _ hbin (by rw [hbl]; exact hzl)
      refine fgv C4 O (hA.less (by omega)) k14 S4 hvl hal ⟨j, hj, by rw [List.length_take]; omega, hje, by rw [List.getElem_take]; exact hje⟩ fun h15 tk15 t15 k15 => ?_
      refine rIAdd fun t16 tk16 => ?_
      repeat walk_at "st"
      (rename St _ _ _ _ _ _ _ => S9)
      refine hk _ _ _ (fun z a b => ?_) ⟨t16, ?_⟩ S9
      · simp only [if_neg a, if_neg b]
      · rw [if_neg hne, hinf, hbd]; rfl
    · have hinf : inf (bdr p) p.tail.dropLast = true := by rw [hbd]; simpa using hc2
      repeat walk_at "st"
      refine hk _ _ _ (fun z a b => ?_) ⟨t12, ?_⟩ (S4.step k14)
      · simp only [if_neg a, if_neg b]
      · rw [if_neg hne, hinf]; rfl
  · have hne : p = pow p := by simpa [pow] using hc
    repeat walk_at "st"
    (rename Kp _ _ => k3)
    exact hk _ _ _ (fun z hz _ => rfl) ⟨tn, by rw [if_pos hne]; exact hmn⟩ (S.step k3)
end
end

section
open PySem PySem.W PyProof.Rows PySem.Calls PySem.SeqAt
set_option maxRecDepth 100000
set_option maxHeartbeats 8000000
section
variable {prog : Program} {w : World} {A : Around} {E : Value → Shared → Prop} {s : Shared} {h : Heap} {tk : Nat} {env : Env} {L : Nat}
  {b g : Heap} {m cm : Str → Option Value} {vol : List (Addr × Obj)} {d : Nat} {t u : Tok} {l p : List Nat} {Q : Flow → Shared → Prop} {ps : List (List Nat)} {ws : List Nat} {wd : Nat} {Sg : List Nat → Int} {Su N W P x dx : Addr}

theorem seg20_4 {K : Shared → Prop} {n0 : Int} {Lf : Addr} {lits : Array Value} {lc : Nat} {xs : List V1} {pre post : List (Addr × Obj)} (hn : ∀ s', K s' → wpAny (model prog w) A (execs (b20.drop 5) env) Q E s') (V : EnvOk env lawNames L (lawCl L)) (O : Okay w b)
    (S : St b L (lawCl L) h m cm (pre ++ (Lf, lst lits lc) :: post)) (hbL : b.get? Lf = none) (hmn : ∃ t, m (Str.ofString "number") = some (.int n0 t)) (hml : m (Str.ofString "left") = some (.ref Lf)) (hal : Are lits.toList xs) (hxs : xs.length ≤ 100)
    (hk : ∀ h' tk' its c, Are its.toList (xs ++ [.i n0]) → St b L (lawCl L) h' m cm (pre ++ (Lf, lst its c) :: post) → K (sh s h' tk')) :
    wpAny (model prog w) A (execs (b20.drop 4) env) Q E (sh s h tk) := by
  have k := Kp.refl h
  obtain ⟨tn, hmn⟩ := hmn
  refine segIn hn ?_
  repeat walk_at "st"
  refine rGetAppend (S.vols (Lf, _) (List.mem_append_right _ (.head _))) ?_
  repeat walk_at "st"
  have hsz : lits.size ≤ 100 := by have := Are.len hal; simp at this; omega
  refine rAppend k S hbL (by omega) fun h2 S3 => ?_
  repeat walk_at "st"
  refine hk _ _ _ _ ?_ S3
  rw [Array.toList_push]
  exact hal.snoc ⟨_, rfl⟩

theorem seg20_5 {K : Shared → Prop} {i : Nat} {ti : Tok} (hn : ∀ s', K s' → wpAny (model prog w) A (execs (b20.drop 6) env) Q E s') (V : EnvOk env lawNames L (lawCl L)) (O : Okay w b) (S : St b L (lawCl L) h m cm vol) (C : Cx prog w ps ws wd Sg vol m cm Su N W P x dx)
    (hi : i < ws.length) (hck : cm (Str.ofString "k") = some (.int (i : Nat) ti)) (hmn : ∃ t, m (Str.ofString "number") = some (.int ((ws[i] : Nat) * 2 ^ (wd * i)) t))
    (hk : ∀ h' tk', St b L (lawCl L) h' m cm vol → K (sh s h' tk')) :
    wpAny (model prog w) A (execs (b20.drop 5) env) Q E (sh s h tk) := by
  have k := Kp.refl h
  obtain ⟨tn, hmn⟩ := hmn
  obtain ⟨wits, wc, hvw, haw⟩ := C.wts
  obtain ⟨td, hcD⟩ := C.cD
  have hcW := C.cW
  have hlen := C.hlen
  have hwl := C.wl
  have hw2 := C.w2
  have hlt := C.wlt _ (List.getElem_mem hi)
  have hwi : wd * i ≤ 123 * 100 := Nat.mul_le_mul hw2 (by omega)
  obtain ⟨v, hv, t1, ev⟩ := Are.get' haw (i := i) (x := .i ((ws[i] : Nat) : Int)) (by rw [List.getElem?_map, List.getElem?_eq_getElem hi]; rfl)
  subst ev
  refine segIn hn ?_
  repeat walk_at "st"
  refine rItem (lst_is (S.vols _ hvw)) (by omega) (by omega) (by simpa using hv) ?_
  repeat walk_at "st"
  refine rMul (IntMulOk.of_left (Nat.le_trans (intBits_lt (k := 7) (by omega)) (by decide))) fun t4 tk4 => ?_
  have e1 : (wd : Int) * (i : Int) = ((wd * i : Nat) : Int) := by push_cast; rfl
  rw [e1]
  refine rPow (by omega) (by omega) (by decide) fun t5 tk5 => ?_
  rw [Int.toNat_natCast]
  have e2 : (2 : Int) ^ (wd * i) = ((2 ^ (wd * i) : Nat) : Int) := by simp
  refine rMul (IntMulOk.of_bits (Nat.le_trans (intBits_lt hlt) (by omega)) (by rw [e2]; exact Nat.le_trans (intBits_lt (k := wd * i + 1) (Nat.pow_lt_pow_right (by decide) (Nat.lt_succ_self _))) (by omega))) fun t6 tk6 => ?_
  repeat walk_at "st"
  refine itF' (by simp) ?_
  repeat walk_at "st"
  exact hk _ _ S

theorem seg20 {K : Shared → Prop} {Lf : Addr} {mid : List (Addr × Obj)} {Xg : List Nat → Int} (hn : ∀ s', K s' → wpAny (model prog w) A (execs (lawBody.drop 21) env) Q E s') (V : EnvOk env lawNames L (lawCl L)) (O : Okay w b) (hA : AOk A 5)
    (S : St b L (lawCl L) h m cm ((Lf, lst #[] 0) :: mid)) (C : Cx prog w ps ws wd Sg mid m cm Su N W P x dx) (hbL : b.get? Lf = none) (hml : m (Str.ofString "left") = some (.ref Lf))
    (hXg : ∀ i (hi : i < ps.length) (hw : i < ws.length), Xg ps[i] = ((ws[i] : Nat) : Int) * 2 ^ (wd * i))
    (hidx : ∀ i (hi : i < ps.length), ∀ q ∈ ps, q.length < ps[i].length → ∃ j, ∃ h : j < ps.length, j < i ∧ ps[j] = q)
    (hpure : ∀ p ∈ ps, (let n1 := if p = [] then Sg p else Sg p - Sg p.tail
      if p = pow p then n1 else if inf (bdr p) p.tail.dropLast = true then n1 + Sg p.tail.dropLast - Sg p.dropLast else n1 + Sg p.tail.dropLast - Sg p.dropLast + Xg (bdr p)) = Xg p)
    (hk : ∀ h' tk' its c m' cm', St b L (lawCl L) h' m' cm' ((Lf, lst its c) :: mid) → K (sh s h' tk')) :
    wpAny (model prog w) A (execs (lawBody.drop 20) env) Q E (sh s h tk) := by
  have k := Kp.refl h
  obtain ⟨nits, cn, hvn, han⟩ := C.names
  have hcN := C.cN
  have hlen := C.hlen
  have hwl := C.wl
  have hsz : nits.size = ps.length := by have := Are.len han; simpa using this
  refine segIn hn ?_
  repeat walk_at "st"
  refine rLenL (lst_is (S.vols _ (.tail _ hvn))) (by omega) fun t1' tk1 => ?_
  repeat walk_at "st"
  refine rIterRange1 (n := ps.length) (by omega) hA.hd (by omega) fun I h2 tk2 k2 hI Wk h0 => ?_
  refine forGo2 (fun i h m' cm' vol' => ∃ its c, vol' = (Lf, lst its c) :: mid ∧ Are its.toList ((ps.take i).map fun q => .i (Xg q)) ∧ m' (Str.ofString "sums") = m (Str.ofString "sums") ∧ m' (Str.ofString "left") = some (.ref Lf) ∧ (∀ z, z ≠ Str.ofString "k" → cm' z = cm z))
    k S hI k2 Wk h0 (fun _ _ => RgSt.obj) ⟨_, _, rfl, .nil, rfl, hml, fun _ _ => rfl⟩ (fun _ _ _ _ _ _ z _ _ => z) ?_ ?_
  · intro i x' v o h tk m' cm' vol' hx hv hJ S hW Q' E' hQ'
    obtain ⟨its, c, rfl, ha, hm1, hm2, hcm⟩ := hJ
    obtain ⟨hi, rfl⟩ := rng_inv hx
    obtain ⟨t2, rfl⟩ := hv
    have k := Kp.refl h
    repeat (first | with_reducible refine wpAny_assign_Name ?_ | ((with_reducible refine' stC ?V ?k ?S ?a ?c ?l ?_); (case V => assumption); (case k => assumption); (case S => assumption); (case a => rfl); (case c => rfl); (case l => walk_at "st_le"); intro h' S'))
    (rename St _ _ _ _ _ _ _ => S2)
    have C2 := C.to (vol' := (I, o) :: (Lf, lst its c) :: mid) (m' := m') (cm' := fun y => if y = Str.ofString "k" then some (Value.int ((0 + i : Nat) : Int) t2) else cm' y) (fun _ q => .tail _ (.tail _ q)) hm1 (fun z hz => by simp only [if_neg hz]; exact hcm z hz)
    have hpi : ps[i] ∈ ps := List.getElem_mem hi
    have hP := hpure _ hpi
    simp only at hP
    refine seg20_0 (i := i) (ti := t2) (K := fun s' => wpAny _ _ (execs (b20.drop 1) env) _ _ s') (fun _ z => z) V O S2 C2 hi (by rw [Nat.zero_add]; rfl) fun h3 tk3 t3 S3 => ?_
    have C3 := C2.to (m' := fun z => if z = Str.ofString "part" then some (.str (T ps[i]) t3) else m' z) (fun _ q => q) rfl (fun _ _ => rfl)
    refine seg20_1 (i := i) (ti := t2) (K := fun s' => wpAny _ _ (execs (b20.drop 2) env) _ _ s') (fun _ z => z) V O S3 C3 hi (by rw [Nat.zero_add]; rfl) fun h4 tk4 t4 S4 => ?_
    have C4 := C3.to (m' := fun z => if z = Str.ofString "number" then some (.int (Sg ps[i]) t4) else if z = Str.ofString "part" then some (.str (T ps[i]) t3) else m' z) (fun _ q => q) rfl (fun _ _ => rfl)
    refine seg20_2 (p := ps[i]) (K := fun s' => wpAny _ _ (execs (b20.drop 3) env) _ _ s') (fun _ z => z) V O (hA.less (by omega)) S4 C4 hpi ⟨t3, rfl⟩ ⟨t4, rfl⟩ fun h5 tk5 m5 hm5 hn5 S5 => ?_
    have C5 := C4.to (m' := m5) (fun _ q => q) (hm5 _ (by decide)) (fun _ _ => rfl)
    refine seg20_3 (p := ps[i]) (i := i) (K := fun s' => wpAny _ _ (execs (b20.drop 4) env) _ _ s') (fun _ z => z) V O (hA.less (by omega)) S5 C5 hpi ⟨t3, hm5 _ (by decide)⟩ hn5 (.tail _ (.head _)) ha ((hm5 _ (by decide)).trans hm2) (hidx i hi) fun h6 tk6 m6 hm6 hn6 S6 => ?_
    rw [hP] at hn6
    have C6 := C5.to (m' := m6) (fun _ q => q) (hm6 _ (by decide) (by decide)) (fun _ _ => rfl)
    have hl6 : m6 (Str.ofString "left") = some (.ref Lf) := (hm6 _ (by decide) (by decide)).trans ((hm5 _ (by decide)).trans hm2)
    refine seg20_4 (pre := [(I, o)]) (K := fun s' => wpAny _ _ (execs (b20.drop 5) env) _ _ s') (fun _ z => z) V O S6 hbL hn6 hl6 ha (by rw [List.length_map, List.length_take]; omega) fun h7 tk7 its7 c7 ha7 S7 => ?_
    have C7 := C.to (vol' := [(I, o)] ++ (Lf, lst its7 c7) :: mid) (m' := m6) (cm' := fun y => if y = Str.ofString "k" then some (Value.int ((0 + i : Nat) : Int) t2) else cm' y) (fun _ q => .tail _ (.tail _ q)) ((hm6 _ (by decide) (by decide)).trans ((hm5 _ (by decide)).trans hm1)) (fun z hz => by simp only [if_neg hz]; exact hcm z hz)
    refine seg20_5 (i := i) (ti := t2) (K := fun s' => wpAny _ _ (execs (b20.drop 6) env) _ _ s') (fun _ z => z) V O S7 C7 (by omega) (by rw [Nat.zero_add]; rfl) (by rw [← hXg i hi (by omega)]; exact hn6) fun h8 tk8 S8 => ?_
    refine wpAny_execs_nil ?_
    refine hQ' .next _ (TurnP.next ?_ S8)
    refine ⟨its7, c7, rfl, ?_, (hm6 _ (by decide) (by decide)).trans ((hm5 _ (by decide)).trans hm1), hl6, fun z hz => by simp only [if_neg hz]; exact hcm z hz⟩
    rw [List.take_add_one, List.getElem?_eq_getElem hi, List.map_append]
    exact ha7
  · rintro h tk m' cm' vol' ⟨its, c, rfl, ha, _, _, hcm⟩ S
    exact wpAny_execs_nil (hk _ _ _ _ _ _ S)
theorem seg21 (V : EnvOk env lawNames L (lawCl L)) (hq : Q (.ret (.bool true)) (sh s h tk)) : wpAny (model prog w) A (execs (lawBody.drop 21) env) Q E (sh s h tk) := by
  refine wpAny_execs_cons ?_
  refine wpAny_Return_some ?_
  exact wpAny_Constant_bool hq
end
end

section
set_option maxHeartbeats 8000000

theorem infix_eq {q p : List Nat} (h : q <:+: p) (hl : p.length ≤ q.length) : q = p := h.eq_of_length (Nat.le_antisymm h.length_le hl)
/-- in a text: itself, in what is without the first, in what is without the last -/
theorem infix_cut {q p : List Nat} (h : q <:+: p) : q = p ∨ q <:+: p.tail ∨ q <:+: p.dropLast := by
  obtain ⟨A, B, rfl⟩ := h
  match A with
  | a :: A => exact .inr (.inl ⟨A, B, rfl⟩)
  | [] =>
    by_cases hB : B = []
    · subst hB; exact .inl (by simp)
    · refine .inr (.inr ⟨[], B.dropLast, ?_⟩)
      rw [List.nil_append, List.dropLast_append_of_ne_nil hB]
theorem suffix_of_not {q l : List Nat} (h : q <:+: l) (hn : ¬ q <:+: l.dropLast) : q <:+ l := by
  obtain ⟨A, B, rfl⟩ := h
  by_cases hB : B = []
  · subst hB; exact ⟨A, by simp⟩
  · refine absurd ⟨A, B.dropLast, ?_⟩ hn
    rw [List.dropLast_append_of_ne_nil hB]
theorem prefix_of_not {q l : List Nat} (h : q <:+: l) (hn : ¬ q <:+: l.tail) : q <+: l := by
  obtain ⟨A, B, rfl⟩ := h
  match A with
  | [] => exact ⟨B, by simp⟩
  | a :: A => exact absurd ⟨A, B, rfl⟩ hn
theorem tail_dropLast (p : List Nat) : p.dropLast.tail = p.tail.dropLast := by
  match p with
  | [] => rfl
  | [a] => rfl
  | a :: b :: r => rfl

theorem sizes_max {p : List Nat} {z y : Nat} (hz : (sizes p).getLast? = some z) (hy : y ∈ sizes p) : y ≤ z := by
  have hs : (sizes p).Pairwise (· < ·) := List.Pairwise.filter _ List.pairwise_lt_range
  obtain ⟨l, hl⟩ : ∃ l, sizes p = l ++ [z] := by
    rw [List.getLast?_eq_some_iff] at hz
    exact hz
  rw [hl] at hs hy
  rcases List.mem_append.mp hy with h | h
  · exact Nat.le_of_lt ((List.pairwise_append.mp hs).2.2 y h z (by simp))
  · simp at h; omega

/-- what is without the first and without the last, and not between: the longest border alone -/
theorem border_only {p q : List Nat} (hp : 2 ≤ p.length) (h1 : q <:+: p.tail) (h2 : q <:+: p.dropLast) (h3 : ¬ q <:+: p.tail.dropLast) : q = bdr p := by
  have hne : p ≠ [] := by rintro rfl; simp at hp
  obtain ⟨z, hz, hzl, hzb⟩ := sizes_ne hne
  have hb : bdr p = p.take z := by unfold bdr; rw [hz]; rfl
  have hs := (suffix_of_not h1 h3).trans (List.tail_suffix p)
  have hpre := (prefix_of_not h2 (by rw [tail_dropLast]; exact h3)).trans (List.dropLast_prefix p)
  have hql : q.length < p.length := by have := h1.length_le; rw [List.length_tail] at this; omega
  have hqt : q = p.take q.length := List.prefix_iff_eq_take.mp hpre
  have hqd : q = p.drop (p.length - q.length) := List.suffix_iff_eq_drop.mp hs
  have hmem : q.length ∈ sizes p := by
    unfold sizes
    rw [List.mem_filter]
    exact ⟨List.mem_range.mpr hql, by rw [← hqt, ← hqd]; simp⟩
  have hle := sizes_max hz hmem
  rw [hb]
  rcases Nat.lt_or_ge q.length z with hlt | hge
  · exfalso
    have hsb : p.take z <:+ p := by rw [hzb]; exact List.drop_suffix _ _
    have hbl : (p.take z).length = z := by rw [List.length_take]; omega
    have hqb : q <:+ p.take z := List.suffix_of_suffix_length_le hs hsb (by omega)
    obtain ⟨A, hA⟩ := hqb
    have hA0 : A ≠ [] := by rintro rfl; rw [List.nil_append] at hA; rw [hA] at hlt; omega
    have hC0 : p.drop z ≠ [] := by
      intro e
      have := congrArg List.length e
      rw [List.length_drop] at this; simp at this; omega
    refine h3 ?_
    have hpe : p = A ++ q ++ p.drop z := by rw [hA, List.take_append_drop]
    match A, hA0, hpe with
    | a :: A, _, hpe =>
      rw [hpe]
      show q <:+: (A ++ q ++ p.drop z).dropLast
      rw [List.dropLast_append_of_ne_nil hC0]
      exact ⟨A, _, rfl⟩
  · have : q.length = z := by omega
    rw [← this]; exact hqt
theorem border_in {p : List Nat} (hp : 2 ≤ p.length) : bdr p <:+: p.tail ∧ bdr p <:+: p.dropLast ∧ (bdr p).length < p.length ∧ bdr p <:+: p := by
  have hne : p ≠ [] := by rintro rfl; simp at hp
  obtain ⟨z, hz, hzl, hzb⟩ := sizes_ne hne
  have hb : bdr p = p.take z := by unfold bdr; rw [hz]; rfl
  have hbl : (p.take z).length = z := by rw [List.length_take]; omega
  rw [hb]
  refine ⟨?_, ?_, by omega, (List.take_prefix _ _).isInfix⟩
  · rw [hzb, ← List.drop_one]
    have : p.length - z = 1 + (p.length - z - 1) := by omega
    rw [this, ← List.drop_drop]
    exact (List.drop_suffix _ _).isInfix
  · rw [List.dropLast_eq_take]
    have : p.take z = (p.take (p.length - 1)).take z := by rw [List.take_take, Nat.min_eq_left (by omega)]
    rw [this]
    exact (List.take_prefix _ _).isInfix

noncomputable def chi (p q : List Nat) : Int := if inf q p = true then 1 else 0
noncomputable def dlt (p q : List Nat) : Int := if q = p then 1 else 0
theorem chi_iff (p q : List Nat) : (inf q p = true) = (q <:+: p) := propext (inf_iff q p)
theorem pow_tail {p : List Nat} (h : p = pow p) : p.tail = p.dropLast := by
  match p, h with
  | [], _ => rfl
  | c :: r, h =>
    have e : pow (c :: r) = List.replicate (r.length + 1) c := by
      unfold pow
      simp only [List.take_succ_cons, List.take_zero, List.length_cons]
      generalize r.length + 1 = n
      induction n with
      | zero => rfl
      | succ n ih => rw [List.replicate_succ, List.flatten_cons, ih]; rfl
    rw [e] at h
    rw [h, List.tail_replicate, List.dropLast_replicate]
theorem chi_nil (q : List Nat) : chi [] q = dlt [] q := by
  unfold chi dlt
  simp only [chi_iff, List.infix_nil]
theorem not_in_shorter {p q : List Nat} (h : q.length < p.length) : ¬ p <:+: q := fun z => by have := z.length_le; omega
theorem chi_pow {p q : List Nat} (h : p = pow p) (hne : p ≠ []) : chi p q - chi p.tail q = dlt p q := by
  have hpos : 0 < p.length := List.length_pos_iff.mpr hne
  unfold chi dlt
  simp only [chi_iff]
  by_cases hq : q = p
  · subst hq
    rw [if_pos (List.infix_refl _), if_neg (not_in_shorter (by rw [List.length_tail]; omega)), if_pos rfl]; rfl
  · rw [if_neg hq]
    by_cases h1 : q <:+: p.tail
    · rw [if_pos h1, if_pos (h1.trans (List.tail_suffix p).isInfix)]; rfl
    · rw [if_neg h1, if_neg (fun z => by
        rcases infix_cut z with a | a | a
        · exact hq a
        · exact h1 a
        · exact h1 (pow_tail h ▸ a))]; rfl
theorem chi_gen {p q : List Nat} (h : p ≠ pow p) : chi p q - chi p.tail q + chi p.tail.dropLast q - chi p.dropLast q + (if inf (bdr p) p.tail.dropLast = true then 0 else dlt (bdr p) q) = dlt p q := by
  have hp := pow_small h
  obtain ⟨b1, b2, b3, b4⟩ := border_in hp
  have hmt : p.tail.dropLast <:+: p.tail := (List.dropLast_prefix _).isInfix
  have hmi : p.tail.dropLast <:+: p.dropLast := by rw [← tail_dropLast]; exact (List.tail_suffix _).isInfix
  unfold chi dlt
  simp only [chi_iff]
  by_cases hq : q = p
  · subst hq
    rw [if_pos (List.infix_refl _), if_neg (not_in_shorter (by rw [List.length_tail]; omega)), if_neg (not_in_shorter (by rw [List.length_dropLast, List.length_tail]; omega)),
      if_neg (not_in_shorter (by rw [List.length_dropLast]; omega)), if_neg (fun z : q = bdr q => by rw [← z] at b3; omega), if_pos rfl]
    split <;> rfl
  · rw [if_neg hq]
    by_cases h3 : q <:+: p.tail.dropLast
    · have ht := h3.trans hmt
      have hi := h3.trans hmi
      rw [if_pos h3, if_pos ht, if_pos hi, if_pos (ht.trans (List.tail_suffix p).isInfix)]
      by_cases hb : bdr p <:+: p.tail.dropLast
      · rw [if_pos hb]; rfl
      · rw [if_neg hb, if_neg (fun z : q = bdr p => hb (z ▸ h3))]; rfl
    · rw [if_neg h3]
      by_cases h1 : q <:+: p.tail
      · rw [if_pos h1, if_pos (h1.trans (List.tail_suffix p).isInfix)]
        by_cases h2 : q <:+: p.dropLast
        · have e := border_only hp h1 h2 h3
          rw [if_pos h2, if_neg (fun z => h3 (e ▸ z)), if_pos e]; rfl
        · rw [if_neg h2, if_neg (fun z : q = bdr p => h2 (z ▸ b2))]
          split <;> rfl
      · rw [if_neg h1, if_neg (fun z : q = bdr p => h1 (z ▸ b1))]
        by_cases h2 : q <:+: p.dropLast
        · rw [if_pos h2, if_pos (h2.trans (List.dropLast_prefix p).isInfix)]
          split <;> rfl
        · rw [if_neg h2, if_neg (fun z => by
            rcases infix_cut z with a | a | a
            · exact hq a
            · exact h1 a
            · exact h2 a)]
          split <;> rfl
end

section
set_option maxHeartbeats 8000000

theorem addP_nodup {x : List Nat} : ∀ {ps : List (List Nat)}, ps.Nodup → (addP ps x).Nodup := fun {ps} h => by
  unfold addP
  split
  · exact h
  · rename_i hx
    rw [List.nodup_append]
    exact ⟨h, by simp, fun a ha b hb => by simp at hb; subst hb; rintro rfl; exact hx ha⟩
theorem addP_mem {x y : List Nat} {ps : List (List Nat)} : y ∈ addP ps x ↔ y ∈ ps ∨ y = x := by
  unfold addP
  split
  · rename_i hx
    exact ⟨.inl, fun h => h.elim id fun e => e ▸ hx⟩
  · simp
theorem fold_nodup : ∀ (xs : List (List Nat)) {ps : List (List Nat)}, ps.Nodup → (xs.foldl addP ps).Nodup
  | [], _, h => h
  | x :: xs, _, h => fold_nodup xs (addP_nodup h)
theorem fold_mem {y : List Nat} : ∀ (xs : List (List Nat)) {ps : List (List Nat)}, y ∈ xs.foldl addP ps ↔ y ∈ ps ∨ y ∈ xs
  | [], ps => by simp
  | x :: xs, ps => by rw [List.foldl_cons, fold_mem xs, addP_mem, List.mem_cons, or_assoc]
theorem fold_app : ∀ (xs : List (List Nat)) (ps : List (List Nat)), ∃ t, xs.foldl addP ps = ps ++ t ∧ t.Sublist xs
  | [], ps => ⟨[], by simp, List.Sublist.refl _⟩
  | x :: xs, ps => by
    obtain ⟨t, e, hs⟩ := fold_app xs (addP ps x)
    rw [List.foldl_cons, e]
    unfold addP
    split
    · exact ⟨t, rfl, hs.cons _⟩
    · exact ⟨x :: t, by simp, hs.cons₂ _⟩
theorem subs_mem {name x : List Nat} {i : Nat} (hi : i < name.length) : x ∈ subs name (1 + i) (name.length - i) ↔ x <:+: name ∧ x.length = i + 1 := by
  unfold subs
  rw [List.mem_map]
  constructor
  · rintro ⟨p, hp, rfl⟩
    have hp := List.mem_range.mp hp
    refine ⟨(List.take_prefix _ _).isInfix.trans (List.drop_suffix _ _).isInfix, ?_⟩
    rw [List.length_take, List.length_drop, Nat.min_eq_left (by omega)]; omega
  · rintro ⟨⟨A, B, e⟩, hl⟩
    have el : name.length = A.length + x.length + B.length := by rw [← e]; simp only [List.length_append]
    refine ⟨A.length, List.mem_range.mpr (by omega), ?_⟩
    rw [← e]
    rw [List.append_assoc, List.drop_left, Nat.add_comm, ← hl, List.take_left]
structure Good (name : List Nat) (i : Nat) (ps : List (List Nat)) : Prop where
  nd : ps.Nodup
  mem : ∀ x, x ∈ ps ↔ x <:+: name ∧ x.length ≤ i
  sort : ps.Pairwise fun x y => x.length ≤ y.length
  len : ps.length ≤ 1 + name.length * i
theorem good {name : List Nat} : ∀ i, i ≤ name.length → Good name i (partsTo name i)
  | 0, _ => by
    show Good name 0 [[]]
    exact { nd := by simp, mem := fun x => by
              simp only [List.mem_singleton, Nat.le_zero, List.length_eq_zero_iff]
              exact ⟨fun h => ⟨h ▸ List.nil_infix, h⟩, fun h => h.2⟩, sort := by simp, len := by simp }
  | i + 1, h => by
    have G := good (name := name) i (by omega)
    rw [partsTo_succ]
    obtain ⟨t, e, hs⟩ := fold_app (subs name (1 + i) (name.length - i)) (partsTo name i)
    have ht : ∀ x ∈ t, x.length = i + 1 := fun x hx => ((subs_mem (by omega)).mp (hs.subset hx)).2
    refine { nd := fold_nodup _ G.nd, mem := fun x => ?_, sort := ?_, len := ?_ }
    · rw [fold_mem, G.mem, subs_mem (by omega)]
      constructor
      · rintro (⟨a, b⟩ | ⟨a, b⟩)
        · exact ⟨a, by omega⟩
        · exact ⟨a, by omega⟩
      · rintro ⟨a, b⟩
        rcases Nat.lt_or_ge i x.length with q | q
        · exact .inr ⟨a, by omega⟩
        · exact .inl ⟨a, q⟩
    · rw [e, List.pairwise_append]
      refine ⟨G.sort, List.pairwise_of_forall_mem_list (fun x hx y hy => by rw [ht x hx, ht y hy]; exact Nat.le_refl _), fun x hx y hy => ?_⟩
      have := ((G.mem x).mp hx).2
      rw [ht y hy]; omega
    · rw [e, List.length_append]
      have h1 := G.len
      have h2 := hs.length_le
      have h3 : (subs name (1 + i) (name.length - i)).length ≤ name.length := by unfold subs; simp
      rw [Nat.mul_succ]; omega

/-- a sum over all parts -/
noncomputable def Dm (ps : List (List Nat)) (ws : List Nat) (wd : Nat) (c : List Nat → Int) : Int := ((List.range ps.length).map fun j => c (ps.getD j []) * (((ws.getD j 0 : Nat) : Int) * 2 ^ (wd * j))).sum
theorem sum_add (l : List Nat) (f g : Nat → Int) : (l.map f).sum + (l.map g).sum = (l.map fun j => f j + g j).sum := by
  induction l with
  | nil => rfl
  | cons a r ih => simp only [List.map_cons, List.sum_cons, ← ih]; omega
theorem sum_sub (l : List Nat) (f g : Nat → Int) : (l.map f).sum - (l.map g).sum = (l.map fun j => f j - g j).sum := by
  induction l with
  | nil => rfl
  | cons a r ih => simp only [List.map_cons, List.sum_cons, ← ih]; omega
theorem Dm_add {ps : List (List Nat)} {ws : List Nat} {wd : Nat} (c c' : List Nat → Int) : Dm ps ws wd c + Dm ps ws wd c' = Dm ps ws wd fun q => c q + c' q := by
  unfold Dm; rw [sum_add]; congr 1; refine List.map_congr_left fun j _ => ?_; rw [Int.add_mul]
theorem Dm_sub {ps : List (List Nat)} {ws : List Nat} {wd : Nat} (c c' : List Nat → Int) : Dm ps ws wd c - Dm ps ws wd c' = Dm ps ws wd fun q => c q - c' q := by
  unfold Dm; rw [sum_sub]; congr 1; refine List.map_congr_left fun j _ => ?_; rw [Int.sub_mul]
theorem Dm_congr {ps : List (List Nat)} {ws : List Nat} {wd : Nat} {c c' : List Nat → Int} (h : ∀ q, c q = c' q) : Dm ps ws wd c = Dm ps ws wd c' := by rw [funext h]
theorem Dm_dlt {ps : List (List Nat)} {ws : List Nat} {wd : Nat} (hnd : ps.Nodup) {i : Nat} (hi : i < ps.length) : Dm ps ws wd (dlt ps[i]) = ((ws.getD i 0 : Nat) : Int) * 2 ^ (wd * i) := by
  have key : ∀ k, k ≤ ps.length → ((List.range k).map fun j => dlt ps[i] (ps.getD j []) * (((ws.getD j 0 : Nat) : Int) * 2 ^ (wd * j))).sum = if i < k then ((ws.getD i 0 : Nat) : Int) * 2 ^ (wd * i) else 0 := by
    intro k
    induction k with
    | zero => intro _; simp
    | succ k ih =>
      intro hk
      rw [List.range_succ, List.map_append, List.sum_append, ih (by omega)]
      simp only [List.map_cons, List.map_nil, List.sum_cons, List.sum_nil, Int.add_zero]
      rw [getD_eq (by omega : k < ps.length)]
      unfold dlt
      by_cases h : k = i
      · subst h
        rw [if_neg (Nat.lt_irrefl _), if_pos rfl, if_pos (Nat.lt_succ_self _)]; omega
      · rw [if_neg (fun e => h (nodup_inj hnd e))]
        by_cases h2 : i < k
        · rw [if_pos h2, if_pos (by omega)]; omega
        · rw [if_neg h2, if_neg (by omega)]; omega
  unfold Dm
  rw [key _ (Nat.le_refl _), if_pos hi]

noncomputable def figsOf (ps : List (List Nat)) (ws : List Nat) (q : List Nat) : List Nat := (List.range ps.length).map fun j => if inf (ps.getD j []) q then ws.getD j 0 else 0
theorem figs_of (ps : List (List Nat)) (ws : List Nat) (i : Nat) : figs ps ws i = figsOf ps ws (ps.getD i []) := rfl
theorem Sg_Dm (ps : List (List Nat)) (ws : List Nat) (wd : Nat) (q : List Nat) : ((sv wd (figsOf ps ws q) : Nat) : Int) = Dm ps ws wd (chi q) := by
  have hl : (figsOf ps ws q).length = ps.length := by simp [figsOf]
  have h := sum_sv (n := wd) (ds := figsOf ps ws q) ps.length (by omega)
  rw [List.take_of_length_le (by omega)] at h
  rw [← h]
  unfold Dm
  congr 1
  refine List.map_congr_left fun j hj => ?_
  have hj' := List.mem_range.mp hj
  have e : (figsOf ps ws q).getD j 0 = if inf (ps.getD j []) q then ws.getD j 0 else 0 := by
    rw [List.getD_eq_getElem?_getD, List.getElem?_eq_getElem (by omega)]
    simp [figsOf]
  rw [e]
  unfold chi
  split <;> simp

theorem law_pure (ps : List (List Nat)) (ws : List Nat) (wd : Nat) (p : List Nat) :
    (let Sg := fun q => ((sv wd (figsOf ps ws q) : Nat) : Int)
     let n1 := if p = [] then Sg p else Sg p - Sg p.tail
      if p = pow p then n1 else if inf (bdr p) p.tail.dropLast = true then n1 + Sg p.tail.dropLast - Sg p.dropLast else n1 + Sg p.tail.dropLast - Sg p.dropLast + Dm ps ws wd (dlt (bdr p))) = Dm ps ws wd (dlt p) := by
  simp only [Sg_Dm]
  by_cases hw : p = pow p
  · rw [if_pos hw]
    by_cases h0 : p = []
    · rw [if_pos h0, h0]
      exact Dm_congr chi_nil
    · rw [if_neg h0, Dm_sub]
      exact Dm_congr fun q => chi_pow hw h0
  · rw [if_neg hw, if_neg (fun e : p = [] => hw (by rw [e]; rfl))]
    have g := fun q => chi_gen (q := q) hw
    split
    · rename_i hb
      rw [Dm_sub, Dm_add, Dm_sub]
      refine Dm_congr fun q => ?_
      have := g q
      rw [if_pos hb] at this
      omega
    · rename_i hb
      rw [Dm_sub, Dm_add, Dm_sub, Dm_add]
      refine Dm_congr fun q => ?_
      have := g q
      rw [if_neg hb] at this
      exact this
end

section
open PySem PySem.W PyProof.Rows PySem.Calls PySem.SeqAt
set_option maxRecDepth 100000
set_option maxHeartbeats 8000000
theorem map_range_getD {α : Type} (ps : List (List Nat)) (F : List Nat → α) : (List.range ps.length).map (fun i => F (ps.getD i [])) = ps.map F := by
  apply List.ext_getElem?
  intro n
  simp only [List.getElem?_map]
  by_cases hn : n < ps.length
  · rw [List.getElem?_range hn, List.getElem?_eq_getElem hn]
    simp only [Option.map_some, getD_eq hn]
  · rw [List.getElem?_eq_none (by simpa using hn), List.getElem?_eq_none (by omega)]; rfl
section
variable {prog : Program} {w : World} {A : Around} {E : Value → Shared → Prop} {s : Shared} {h : Heap} {tk : Nat} {env : Env} {L : Nat}
  {b g : Heap} {m cm : Str → Option Value} {vol : List (Addr × Obj)} {d : Nat} {t u : Tok} {l p : List Nat} {Q : Flow → Shared → Prop}
theorem law_run {SC : Addr} {scits : Array Value} {sc : List Int} (V : EnvOk env lawNames L (lawCl L)) (O : Okay w b) (hA : AOk A 121) (hfr : A.frames = some [env]) (hframe : env.frame = some L)
    (S : St b L (lawCl L) h m cm [(38, tabObj #[]), (31, tabObj #[])]) (hb38 : b.get? 38 = none) (hb31 : b.get? 31 = none) (hm : m (Str.ofString "script") = some (.ref SC)) (hSC : b.IsList SC scits) (hsc : Are scits.toList (sc.map .i)) (hlen : sc.length ≤ 63)
    (hQ : ∀ h' tk' m' cm' vol', (∃ p8 p1, (38, tabObj p8) ∈ vol' ∧ (31, tabObj p1) ∈ vol') → St b L (lawCl L) h' m' cm' vol' → Q (.ret (.bool true)) (sh s h' tk')) :
    wpAny (model prog w) A (execs lawBody env) Q E (sh s h tk) := by
  refine seg0 (K := fun s' => wpAny _ _ (execs (lawBody.drop 1) env) Q E s') (fun _ z => z) V O S fun H oH its hs h1 tk1 hbH hH ha h4 S1 => ?_
  refine seg1 (K := fun s' => wpAny _ _ (execs (lawBody.drop 2) env) Q E s') (fun _ z => z) V O (hA.less (by omega)) S1 hbH hH ha h4 hm rfl hSC hsc hlen fun oH2 its2 hs2 h2 tk2 m2 hH2 ha2 h42 S2 => ?_
  refine seg2 (K := fun s' => wpAny _ _ (execs (lawBody.drop 3) env) Q E s') (fun _ z => z) V O S2 (.head _) hH2 ha2 h42 rfl fun Sg sits3 c3 xx yy h3 tk3 hx hy hbSg ha3 S3 => ?_
  refine seg3 (K := fun s' => wpAny _ _ (execs (lawBody.drop 4) env) Q E s') (fun _ z => z) V O S3 (.tail _ (.head _)) hH2 ha2 h42 rfl fun wd wt h4' tk4 hw4 hw S4 => ?_
  refine seg4 (K := fun s' => wpAny _ _ (execs (lawBody.drop 5) env) Q E s') (fun _ z => z) V O (hA.less (by omega)) S4 (.tail _ (.head _)) hH2 ha2 h42 rfl (.head _) (isLst.lst _ _) ha3 hx hy rfl fun name Pa pits c5 h5 tk5 hn5 hnc hbPa haP S5 => ?_
  have G := good (name := name) name.length (Nat.le_refl _)
  generalize partsTo name name.length = ps at haP G
  have hps5 : ∀ p ∈ ps, p.length ≤ 5 := fun p hp => by have := ((G.mem p).mp hp).2; omega
  have hpch : ∀ p ∈ ps, ∀ c ∈ p, c < 55000 := fun p hp c hc => hnc c (((G.mem p).mp hp).1.subset hc)
  have hplen : ps.length ≤ 100 := by have := G.len; rw [hn5] at this; omega
  have hname : name ∈ ps := (G.mem name).mpr ⟨List.infix_refl _, Nat.le_refl _⟩
  have hp0 : 0 < ps.length := List.length_pos_of_mem hname
  have hpw := List.pairwise_iff_getElem.mp G.sort
  have hl5 : ∀ h : ps.length - 1 < ps.length, (ps[ps.length - 1]).length = 5 := fun h => by
    obtain ⟨j, hj, e⟩ := List.getElem_of_mem hname
    have h1 := hps5 _ (List.getElem_mem h)
    rcases Nat.lt_or_ge j (ps.length - 1) with q | q
    · have h2 := hpw j (ps.length - 1) hj h q
      rw [e, hn5] at h2; omega
    · have : j = ps.length - 1 := by omega
      subst this; rw [e]; exact hn5
  have hsort : ∀ i j (hi : i < ps.length) (hj : j < ps.length), i < j → inf ps[j] ps[i] = false := fun i j hi hj hij => by
    rw [Bool.eq_false_iff]
    intro e
    have h1 := (inf_iff _ _).mp e
    have h2 := infix_eq h1 (hpw i j hi hj hij)
    have := nodup_inj G.nd h2
    omega
  have hidx : ∀ i (hi : i < ps.length), ∀ q ∈ ps, q.length < ps[i].length → ∃ j, ∃ h : j < ps.length, j < i ∧ ps[j] = q := fun i hi q hq hl => by
    obtain ⟨j, hj, e⟩ := List.getElem_of_mem hq
    refine ⟨j, hj, ?_, e⟩
    rcases Nat.lt_trichotomy j i with z | z | z
    · exact z
    · subst z; rw [e] at hl; omega
    · have := hpw i j hi hj z; rw [e] at this; omega
  have hfac : ∀ p ∈ ps, ∀ q, q <:+: p → q ∈ ps := fun p hp q hq => by
    have h1 := (G.mem p).mp hp
    exact (G.mem q).mpr ⟨hq.trans h1.1, Nat.le_trans hq.length_le h1.2⟩
  refine seg5 (K := fun s' => wpAny _ _ (execs (lawBody.drop 6) env) Q E s') (fun _ z => z) V O (hA.less (by omega)) S5 (.head _) haP rfl hps5 hplen fun Wr wits6 c6 h6 tk6 hbWr haW S6 => ?_
  refine seg6 (K := fun s' => wpAny _ _ (execs (lawBody.drop 7) env) Q E s') (fun _ z => z) V O S6 fun Cl cits7 c7 h7 tk7 hbCl haC S7 => ?_
  refine seg7 (K := fun s' => wpAny _ _ (execs (lawBody.drop 8) env) Q E s') (fun _ z => z) V O (hA.less (by omega)) S7 (.tail _ (.tail _ (.head _))) haP rfl hps5 hplen (.tail _ (.head _)) haW rfl (.head _) haC rfl (.tail _ (.tail _ (.tail _ (.tail _ (.head _))))) hH2 ha2 h42 rfl fun N nits8 c8 h8 tk8 hbN haN S8 => ?_
  refine seg8 (K := fun s' => wpAny _ _ (execs (lawBody.drop 9) env) Q E s') (fun _ z => z) V O (hA.less (by omega)) S8 (.tail _ (.tail _ (.tail _ (.head _)))) haP rfl hps5 hpch hplen hp0 (.tail _ (.tail _ (.head _))) haW rfl (.head _) haN rfl fun h9 tk9 S9 => ?_
  refine seg9 (K := fun s' => wpAny _ _ (execs (lawBody.drop 10) env) Q E s') (fun _ z => z) V O (hA.less (by omega)) S9 hps5 hplen (.head _) haN rfl fun Al aits10 c10 h10 tk10 hbAl haA S10 => ?_
  have haA' : Are aits10.toList ((ps.map fun p => inf p [32, 9]).map .b) := by rw [List.map_map]; exact haA
  refine seg10 (K := fun s' => wpAny _ _ (execs (lawBody.drop 11) env) Q E s') (fun _ z => z) V O (hA.less (by omega)) S10 (by rw [List.length_map]; exact hplen) (.head _) haA' rfl fun h11 tk11 S11 => ?_
  refine seg11 (K := fun s' => wpAny _ _ (execs (lawBody.drop 12) env) Q E s') (fun _ z => z) V O (hA.less (by omega)) S11 hps5 hplen (.tail _ (.head _)) haN rfl (.head _) haA rfl fun h12 tk12 S12 => ?_
  refine seg12 (K := fun s' => wpAny _ _ (execs (lawBody.drop 13) env) Q E s') (fun _ z => z) V O S12 fun P oP0 h13 tk13 hbP hsys hoP0 S13 => ?_
  refine seg13 (K := fun s' => wpAny _ _ (execs (lawBody.drop 14) env) Q E s') (fun _ z => z) V O (hA.less (by omega)) S13 hplen G.nd hbP hoP0 (.tail _ (.head _)) haN rfl rfl fun oP τ h14 tk14 cm14 hcm14 hoP S14 => ?_
  refine seg14 (K := fun s' => wpAny _ _ (execs (lawBody.drop 15) env) Q E s') (fun _ z => z) V O (hA.less (by omega)) S14 hplen hw4 hw (.tail _ (.tail _ (.head _))) haN (hcm14 _ (by decide)) (.tail _ (.tail _ (.tail _ (.tail _ (.tail _ (.tail _ (.tail _ (.head _)))))))) hH2 ha2 h42 (hcm14 _ (by decide)) (hcm14 _ (by decide)) fun W wits15 c15 h15 tk15 ws hbW hwl hws haWt S15 => ?_
  refine seg15 (K := fun s' => wpAny _ _ (execs (lawBody.drop 16) env) Q E s') (fun _ z => z) V O (hA.less (by omega)) S15 fun x dx h16 tk16 hbx hbdx S16 => ?_
  refine seg16 (its := #[]) (c := 0) (K := fun s' => wpAny _ _ (execs (lawBody.drop 17) env) Q E s') (fun _ z => z) V O (hA.less (by omega)) S16 hfr hframe hplen hp0 hps5 hl5 (.tail _ (.tail _ (.tail _ (.tail _ (.tail _ (.head _)))))) haN (hcm14 _ (by decide)) (.head _) (.tail _ (.head _)) rfl (.tail _ (.tail _ (.tail _ (.head _)))) hoP (hcm14 _ (by decide)) hsys rfl fun h17 tk17 S17 => ?_
  refine seg17 (K := fun s' => wpAny _ _ (execs (lawBody.drop 18) env) Q E s') (fun _ z => z) V O S17 fun Su h18 tk18 hbSu S18 => ?_
  have hmid : ∀ p ∈ ([(x, instObj 149 dx), (dx, emptyDict), (W, lst wits15 c15), (P, oP), (Al, lst aits10 c10), (N, lst nits8 c8), (Cl, lst cits7 c7), (Wr, lst wits6 c6), (Pa, lst pits c5), (Sg, lst sits3 c3), (H, oH2)] : List (Addr × Obj)), NC p.2 := by
    intro p hp
    simp only [List.mem_cons, List.not_mem_nil, or_false] at hp
    rcases hp with rfl | rfl | rfl | rfl | rfl | rfl | rfl | rfl | rfl | rfl | rfl
    · intro vs e; cases e
    · intro vs e; cases e
    · exact NC.lst _ _
    · obtain ⟨es, ep, _, d, _⟩ := hoP
      intro vs e
      rw [show oP.data = _ from d] at e; cases e
    · exact NC.lst _ _
    · exact NC.lst _ _
    · exact NC.lst _ _
    · exact NC.lst _ _
    · exact NC.lst _ _
    · exact NC.lst _ _
    · exact NC.isLst hH2
  have S18' : St b L (lawCl L) h18 (fun z => if z = Str.ofString "sums" then some (.ref Su) else (fun z => if z = Str.ofString "alone" then some (.ref Al) else (fun z => if z = Str.ofString "parts" then some (.ref Pa) else m2 z) z) z) (fun z => if z = Str.ofString "finder" then some (.ref x) else (fun z => if z = Str.ofString "weights" then some (.ref W) else cm14 z) z)
      ((Su, lst #[] 0) :: (38, tabObj #[]) :: (31, tabObj #[]) :: ([] ++ [(x, instObj 149 dx), (dx, emptyDict), (W, lst wits15 c15), (P, oP), (Al, lst aits10 c10), (N, lst nits8 c8), (Cl, lst cits7 c7), (Wr, lst wits6 c6), (Pa, lst pits c5), (Sg, lst sits3 c3), (H, oH2)])) :=
    S18.perm (List.Perm.cons _ (List.perm_append_comm (l₁ := [(38, tabObj #[]), (31, tabObj #[])]) (l₂ := [(x, instObj 149 dx), (dx, emptyDict), (W, lst wits15 c15), (P, oP), (Al, lst aits10 c10), (N, lst nits8 c8), (Cl, lst cits7 c7), (Wr, lst wits6 c6), (Pa, lst pits c5), (Sg, lst sits3 c3), (H, oH2)])))
  refine seg18 (its0 := #[]) (c0 := 0) (K := fun s' => wpAny _ _ (execs (lawBody.drop 19) env) Q E s') (fun _ z => z) V O hA S18' hb38 hb31 hbSu (.inl rfl) (.inl rfl) hmid hw4 hw hplen hwl hws hsort (.tail _ (.tail _ (.tail _ (.tail _ (.tail _ (.head _)))))) haN (hcm14 _ (by decide)) (.tail _ (.tail _ (.tail _ (.tail _ (.tail _ (.tail _ (.tail _ (.head _)))))))) haW (hcm14 _ (by decide)) (.head _) (.tail _ (.head _)) rfl (.tail _ (.tail _ (.head _))) haWt rfl (hcm14 _ (by decide)) (hcm14 _ (by decide)) rfl fun h19 tk19 p8 p1 cds sits19 c19 cm19 hcm19 haS S19 => ?_
  refine seg19 (K := fun s' => wpAny _ _ (execs (lawBody.drop 20) env) Q E s') (fun _ z => z) V O S19 fun Lf h20 tk20 hbLf S20 => ?_
  have inm : ∀ {q : Addr × Obj}, q ∈ ([(x, instObj 149 dx), (dx, emptyDict), (W, lst wits15 c15), (P, oP), (Al, lst aits10 c10), (N, lst nits8 c8), (Cl, lst cits7 c7), (Wr, lst wits6 c6), (Pa, lst pits c5), (Sg, lst sits3 c3), (H, oH2)] : List (Addr × Obj)) → q ∈ ((Su, lst sits19 c19) :: (38, tabObj p8) :: (31, tabObj p1) :: (cds ++ [(x, instObj 149 dx), (dx, emptyDict), (W, lst wits15 c15), (P, oP), (Al, lst aits10 c10), (N, lst nits8 c8), (Cl, lst cits7 c7), (Wr, lst wits6 c6), (Pa, lst pits c5), (Sg, lst sits3 c3), (H, oH2)]) : List (Addr × Obj)) := fun hq => .tail _ (.tail _ (.tail _ (List.mem_append_right _ hq)))
  have hsum : Are sits19.toList (ps.map fun q => .i ((sv wd (figsOf ps ws q) : Nat) : Int)) := by
    rw [← map_range_getD ps (fun q => V1.i ((sv wd (figsOf ps ws q) : Nat) : Int))]; exact haS
  have C : Cx prog w ps ws wd (fun q => ((sv wd (figsOf ps ws q) : Nat) : Int)) ((Su, lst sits19 c19) :: (38, tabObj p8) :: (31, tabObj p1) :: (cds ++ [(x, instObj 149 dx), (dx, emptyDict), (W, lst wits15 c15), (P, oP), (Al, lst aits10 c10), (N, lst nits8 c8), (Cl, lst cits7 c7), (Wr, lst wits6 c6), (Pa, lst pits c5), (Sg, lst sits3 c3), (H, oH2)])) (fun z => if z = Str.ofString "left" then some (.ref Lf) else (fun z => if z = Str.ofString "sums" then some (.ref Su) else (fun z => if z = Str.ofString "alone" then some (.ref Al) else (fun z => if z = Str.ofString "parts" then some (.ref Pa) else m2 z) z) z) z) cm19 Su N W P x dx := {
    hlen := hplen
    n5 := hps5
    nd := G.nd
    fac := hfac
    names := ⟨nits8, c8, inm (.tail _ (.tail _ (.tail _ (.tail _ (.tail _ (.head _)))))), haN⟩
    sums := ⟨sits19, c19, .head _, hsum⟩
    fmt := inm (.head _)
    fmd := inm (.tail _ (.head _))
    wl := hwl
    wlt := fun x hx => (hws x hx).2
    w2 := hw
    wts := ⟨wits15, c15, inm (.tail _ (.tail _ (.head _))), haWt⟩
    plc := ⟨oP, τ, inm (.tail _ (.tail _ (.tail _ (.head _)))), hoP⟩
    cN := (hcm19 _ (by decide) (by decide) (by decide)).trans (hcm14 _ (by decide))
    cW := hcm19 _ (by decide) (by decide) (by decide)
    cP := (hcm19 _ (by decide) (by decide) (by decide)).trans (hcm14 _ (by decide))
    cX := hcm19 _ (by decide) (by decide) (by decide)
    cD := ⟨wt, (hcm19 _ (by decide) (by decide) (by decide)).trans (hcm14 _ (by decide))⟩
    mS := rfl }
  refine seg20 (Xg := fun q => Dm ps ws wd (dlt q)) (K := fun s' => wpAny _ _ (execs (lawBody.drop 21) env) Q E s') (fun _ z => z) V O (hA.less (by omega)) S20 C hbLf rfl (fun i hi hwi => ?_) hidx (fun p _ => law_pure ps ws wd p) fun h21 tk21 lits21 c21 m21 cm21 S21 => ?_
  · show Dm ps ws wd (dlt ps[i]) = _
    rw [Dm_dlt G.nd hi, List.getD_eq_getElem?_getD, List.getElem?_eq_getElem hwi]; rfl
  exact seg21 V (hQ _ _ _ _ _ ⟨p8, p1, .tail _ (.tail _ (.head _)), .tail _ (.tail _ (.tail _ (.head _)))⟩ S21)
end
end

section
open PySem PySem.W PyProof.Rows PySem.Calls PySem.SeqAt
set_option maxRecDepth 100000
set_option maxHeartbeats 8000000
theorem cells_of {cm : Str → Option Value} {cl : List (Str × Addr)} {cells : List (Addr × Obj)} {h : Heap} (X : CellsAre cm cl cells) (hv : ∀ p ∈ cells, h.get? p.1 = some p.2) : ∀ n c, (n, c) ∈ cl → h.IsCell c (cm n) := by
  induction X with
  | nil => intro n c hc; cases hc
  | cons hd _ ih =>
    intro n c hc
    rcases List.mem_cons.mp hc with e | hc
    · cases e; exact ⟨_, hv _ (.head _), hd⟩
    · exact ih (fun p hp => hv p (.tail _ hp)) n c hc
noncomputable abbrev lawAd (L : Nat) : List Nat := [L + 1 + 1 + 1 + 1 + 1 + 1 + 1 + 1 + 1 + 1 + 1 + 1, L + 1 + 1 + 1 + 1 + 1 + 1 + 1 + 1 + 1 + 1 + 1, L + 1 + 1 + 1 + 1 + 1 + 1 + 1 + 1 + 1 + 1, L + 1 + 1 + 1 + 1 + 1 + 1 + 1 + 1 + 1, L + 1 + 1 + 1 + 1 + 1 + 1 + 1 + 1, L + 1 + 1 + 1 + 1 + 1 + 1 + 1, L + 1 + 1 + 1 + 1 + 1 + 1, L + 1 + 1 + 1 + 1 + 1, L + 1 + 1 + 1 + 1, L + 1 + 1 + 1, L + 1 + 1, L + 1]
theorem lawAd_eq (L : Nat) : lawAd L = [12, 11, 10, 9, 8, 7, 6, 5, 4, 3, 2, 1].map fun k => L + k := rfl
theorem lawCl_apart (L : Nat) : (lawCl L).Pairwise fun x y => x.2 ≠ y.2 := by
  have h : (lawAd L).Pairwise (· ≠ ·) := by
    rw [lawAd_eq]
    exact List.pairwise_map.mpr ((show [12, 11, 10, 9, 8, 7, 6, 5, 4, 3, 2, 1].Pairwise (· ≠ ·) by decide).imp fun h e => h (Nat.add_left_cancel e))
  exact List.pairwise_map.mp (show ((lawCl L).map (·.2)).Pairwise (· ≠ ·) from h)
theorem lawCl_above (L : Nat) (n : Str) (c : Addr) (hc : (n, c) ∈ lawCl L) : L < c := by
  have h : ∀ c : Nat, c ∈ lawAd L → L < c := by
    intro c hc
    rw [lawAd_eq] at hc
    obtain ⟨k, hk, rfl⟩ := List.mem_map.mp hc
    exact Nat.lt_add_of_pos_right ((show ∀ k ∈ [12, 11, 10, 9, 8, 7, 6, 5, 4, 3, 2, 1], 0 < k by decide) k hk)
  exact h c (List.mem_map_of_mem (f := fun p : Str × Addr => p.2) hc)
theorem law_start {tabs : List (Addr × Addr)} (ht : tabs = [(42, 38), (35, 31)]) {h₁ h : Heap} {L : Nat} {m cm : Str → Option Value} {cells : List (Addr × Obj)} (hT : TabsAt tabs h₁) (F : Fr h₁ L h m) (N0 : News h₁ L h cells) (X0 : CellsAre cm (lawCl L) cells) :
    St (ghostOf h₁ tabs) L (lawCl L) h m cm [(38, tabObj #[]), (31, tabObj #[])] := by
  subst ht
  have F' := ghost_fr hT F
  have N' := ghost_news hT F N0
  have lt := ghost_lt hT F
  have l38 : (38 : Nat) < L := lt (38, tabObj #[]) (.head _)
  have l31 : (31 : Nat) < L := lt (31, tabObj #[]) (.tail _ (.head _))
  exact {
    ns := F'.ns
    keep := F'.keep
    cell := fun n c hc => cells_of X0 (fun p hp => (N0 p hp).1) n c (mem_of_lookup hc)
    vols := fun p hp => (N' p (List.mem_append_right _ hp)).1
    sz := F'.above
    apart := lawCl_apart L
    cL := fun n c hc => Nat.ne_of_gt (lawCl_above L n c hc)
    vL := fun p hp => Nat.ne_of_lt (lt p hp)
    vc := fun p hp n c hc => Nat.ne_of_lt (Nat.lt_trans (lt p hp) (lawCl_above L n c hc))
    nd := by simp
    ck := (show ((lawCl 0).map (·.1)).Nodup by decide) }
end

end Mine
section
open PySem PySem.W PyProof.Rows PySem.Calls PySem.SeqAt
set_option maxRecDepth 100000 in
set_option maxHeartbeats 8000000 in
theorem PySem.Challenge.cw_wv0025_01_holds : PySem.Challenge.rw_wv0025_01.Holds := by
  refine Mine.hd ?_
  k_fill
  intro w s₀ s₁ mg mb G Y fa o pm cd doc dV kV ho hd hcd hD hmg hg args vals as hpre hlay hrd hwl hlo
  have KX := km_in_of Y
  km_tabs Y
  have X := (Ground.X G).1
  have V := (Ground.X G).2
  refine Ground.open G ?_
  intro T B D TE TW
  try (refine guard_noD D (by decide +kernel) ?_; clear D)
  km_lay T hmg ho hd cd
  clear hmg
  wrow_args hpre hlay hrd hwl hlo
  all_goals (
    first | refine callC_kw (enter_call ?_) | refine enter_call ?_
    w_top on
    kn_posts)
  have he := Dflts.none hD rfl; subst he; have he := Dflts.noKw hD; subst he
  refine call_cellsN (by decide) ho (fd_plain hd) (Top.nolimit T) hcd rfl (kinds_of (by kinds_ok)) (by decide) fun h₁ tk₁ cells F N0 X0 => ?_
  clear hd hD
  (rename IntsAre _ _ => hI)
  (rename Heap.IsList _ _ _ => hL)
  have S := Mine.law_start rfl hT9 F N0 X0
  have O : Mine.Okay w (ghostOf s₁.heap [(42, 38), (35, 31)]) := ⟨ghost_K hT9 KX (by with_unfolding_all rfl), (ghost_top hT9 T).nolimit, _, _, _, _, _, ghost_top hT9 T⟩
  refine Mine.law_run (s := s₁) (h := h₁) (tk := tk₁) ⟨rfl, rfl, rfl, rfl, rfl, rfl⟩ O ⟨rfl, ?dp, ?un⟩ (Around.frames_deeper rfl) rfl S (hideAll_none _ (by decide)) (hideAll_none _ (by decide)) rfl (ghost_list hT9 hL) (Mine.Are.ints hI) (by omega) ?fin
  case dp => rw [depth_deeper]; decide
  case un => rw [units_deeper]; decide
  case fin =>
    rintro h' tk' m' cm' vol' ⟨p8, p1, h8, h1⟩ S'
    refine ⟨⟨.inl ⟨.bool true, .bool true, [], rfl, fun _ => rfl, ReadsW.bool true, ?post, fun _ => ⟨List.nodup_nil, fun a ha => by cases ha⟩⟩, S'.keep, rfl, hg⟩, ⟨_, S'.vols _ h8⟩, ⟨_, S'.vols _ h1⟩, trivial⟩
    case post => with_unfolding_all rfl
end
