import PyProof.Rows.All
import Wide.All
import OpenK.AllK
import Wide.FinOn
import Lean
import PySem.Challenge.RW_qu0003_01
set_option Elab.async false
set_option linter.unusedSimpArgs false
set_option linter.unusedVariables false
set_option linter.unusedSectionVars false

section
open PySem PySem.W PyProof.Rows
namespace Mine
set_option maxRecDepth 100000 in
set_option maxHeartbeats 8000000 in
open_top hd01 for PySem.Challenge.rw_qu0003_01
end Mine
end

section
open PySem PySem.W PySem.Calls PyProof.Rows
namespace Mine

/-- what the program's top left, and what a call leans on -/
structure Gd (K : Frag) (h : Heap) : Prop where
  frag : K.In h
  gl : ∃ mg, h.Ns mainGlobals mg
  bt : ∃ mb, h.Ns builtinsNs mb ∧ ∀ x : Str, x ≠ "__name__" → mb x = bootBuiltins x
  nl : h.NoLimit

theorem Gd.ext {K : Frag} {h h' : Heap} (G : Gd K h) (e : ∀ b o, h.get? b = some o → h'.get? b = some o) : Gd K h' :=
  ⟨G.frag.keeps e, let ⟨mg, a⟩ := G.gl; ⟨mg, a.keeps e⟩, let ⟨mb, a, b⟩ := G.bt; ⟨mb, a.keeps e, b⟩, G.nl.keeps e⟩

/-- an address that is none of the ground's -/
def Fre (K : Frag) (a : Addr) : Prop := K.lookup a = none ∧ a ≠ builtinsNs ∧ a ≠ cStatics ∧ a ≠ mainGlobals

theorem Gd.but {K : Frag} {h h' : Heap} (G : Gd K h) {X : List Addr} (hX : ∀ a ∈ X, Fre K a) (e : ∀ b o, b ∉ X → h.get? b = some o → h'.get? b = some o) : Gd K h' := by
  refine ⟨fun a o ha => e a o (fun hm => ?_) (G.frag a o ha), ?_, ?_, ?_⟩
  · rw [(hX a hm).1] at ha; cases ha
  · obtain ⟨mg, n⟩ := G.gl
    exact ⟨mg, n.at (fun o ho => e _ o (fun hm => (hX _ hm).2.2.2 rfl) ho)⟩
  · obtain ⟨mb, n, b⟩ := G.bt
    exact ⟨mb, n.at (fun o ho => e _ o (fun hm => (hX _ hm).2.1 rfl) ho), b⟩
  · obtain ⟨mc, n, b⟩ := G.nl
    exact ⟨mc, n.at (fun o ho => e _ o (fun hm => (hX _ hm).2.2.1 rfl) ho), b⟩

theorem Gd.fre {K : Frag} {h : Heap} (G : Gd K h) {a : Addr} (ha : h.get? a = none) : Fre K a := by
  refine ⟨?_, ?_, ?_, ?_⟩
  · cases q : K.lookup a with
    | none => rfl
    | some o => have := G.frag a o q; rw [ha] at this; cases this
  · rintro rfl
    obtain ⟨mb, ⟨o, es, ep, ho, _⟩, _⟩ := G.bt
    rw [ha] at ho; cases ho
  · rintro rfl
    obtain ⟨mc, ⟨o, es, ep, ho, _⟩, _⟩ := G.nl
    rw [ha] at ho; cases ho
  · rintro rfl
    obtain ⟨mg, o, es, ep, ho, _⟩ := G.gl
    rw [ha] at ho; cases ho

/-- a thing in the heap: the addresses it lies at, and what is said of it -/
structure HD where
  fp : List Addr
  P : Heap → Prop
  st : ∀ h h', (∀ a ∈ fp, ∀ o, h.get? a = some o → h'.get? a = some o) → P h → P h'
  al : ∀ h, P h → ∀ a ∈ fp, ∃ o, h.get? a = some o

/-- a str value -/
def SV (v : Value) (x : Str) : Prop := ∃ t, v = .str x t
/-- an int value -/
def IV (v : Value) (x : Int) : Prop := ∃ t, v = .int x t

def nsD (a : Addr) (l : List (Str × Value)) : HD where
  fp := [a]
  P h := h.Ns a (fun x => l.lookup x)
  st h h' e p := p.at (e a (.head _))
  al h p b hb := by cases hb with | head => (obtain ⟨o, _, _, ho, _⟩ := p; exact ⟨o, ho⟩) | tail _ q => cases q
def listD (a : Addr) (vs : List Value) : HD where
  fp := [a]
  P h := h.IsList a vs.toArray
  st h h' e p := p.at (e a (.head _))
  al h p b hb := by cases hb with | head => (obtain ⟨o, ho, _⟩ := p; exact ⟨o, ho⟩) | tail _ q => cases q
def objD (a : Addr) (o : Obj) : HD where
  fp := [a]
  P h := h.get? a = some o
  st h h' e p := e a (.head _) o p
  al h p b hb := by cases hb with | head => exact ⟨o, p⟩ | tail _ q => cases q
/-- a cell that holds v -/
def cellD (a : Addr) (v : Option Value) : HD where
  fp := [a]
  P h := ∃ o, h.get? a = some o ∧ o.data = .cell v
  st h h' e p := let ⟨o, ho, hd⟩ := p; ⟨o, e a (.head _) o ho, hd⟩
  al h p b hb := by cases hb with | head => (obtain ⟨o, ho, _⟩ := p; exact ⟨o, ho⟩) | tail _ q => cases q
/-- a list of strs -/
def strsD (a : Addr) (xs : List Str) : HD where
  fp := [a]
  P h := ∃ vs : List Value, h.PlainList a vs.toArray ∧ Paired SV vs xs
  st h h' e p := by obtain ⟨vs, l, q⟩ := p; exact ⟨vs, l.at (e a (.head _)), q⟩
  al h p b hb := by cases hb with | head => (obtain ⟨vs, ⟨n, ho⟩, _⟩ := p; exact ⟨_, ho⟩) | tail _ q => cases q
/-- a list of ints -/
def intsD (a : Addr) (xs : List Int) : HD where
  fp := [a]
  P h := ∃ vs : List Value, h.IsList a vs.toArray ∧ Paired IV vs xs
  st h h' e p := by obtain ⟨vs, l, q⟩ := p; exact ⟨vs, l.at (e a (.head _)), q⟩
  al h p b hb := by cases hb with | head => (obtain ⟨vs, ⟨o, ho, _⟩, _⟩ := p; exact ⟨o, ho⟩) | tail _ q => cases q

/-- the ledger: g is the heap at the start, h the heap now; O old things that may change, N new things -/
structure Led (K : Frag) (g h : Heap) (O N : List HD) : Prop where
  gd : Gd K h
  all : ∀ d ∈ O ++ N, d.P h
  nd : ((O ++ N).flatMap HD.fp).Nodup
  nw : ∀ d ∈ N, ∀ a ∈ d.fp, g.get? a = none
  fr : ∀ d ∈ O ++ N, ∀ a ∈ d.fp, Fre K a
  keep : ∀ b o, g.get? b = some o → b ∉ O.flatMap HD.fp → h.get? b = some o

section
variable {K : Frag} {g h h' : Heap} {O N : List HD} {d d' : HD}

theorem Led.start (G : Gd K g) : Led K g g [] [] :=
  ⟨G, fun _ h => (nomatch h), List.nodup_nil, fun _ h => (nomatch h), fun _ h => (nomatch h), fun _ _ e _ => e⟩

theorem Led.startO (G : Gd K g) (hO : ∀ d ∈ O, d.P g) (nd : (O.flatMap HD.fp).Nodup) (fr : ∀ d ∈ O, ∀ a ∈ d.fp, Fre K a) : Led K g g O [] :=
  ⟨G, fun d hd => hO d (by simpa using hd), by simpa using nd, fun _ h => (nomatch h), fun d hd => fr d (by simpa using hd), fun _ _ e _ => e⟩

theorem Led.ext (H : Led K g h O N) (e : ∀ b o, h.get? b = some o → h'.get? b = some o) : Led K g h' O N :=
  ⟨H.gd.ext e, fun d hd => d.st _ _ (fun a _ o ho => e a o ho) (H.all d hd), H.nd, H.nw, H.fr, fun b o hb hn => e _ _ (H.keep b o hb hn)⟩

theorem Led.lo (H : Led K g h O N) (hd : d ∈ O ++ N) {a : Addr} (ha : a ∈ d.fp) : ∃ o, h.get? a = some o := d.al h (H.all d hd) a ha

/-- a new address is fresh for the start's heap too -/
theorem Led.fresh (H : Led K g h O N) {a : Addr} (ha : h.get? a = none) : g.get? a = none := by
  cases q : g.get? a with
  | none => rfl
  | some o =>
    by_cases hm : a ∈ O.flatMap HD.fp
    · obtain ⟨d, hd, hx⟩ := List.mem_flatMap.mp hm
      obtain ⟨o', ho'⟩ := H.lo (List.mem_append_left _ hd) hx
      rw [ha] at ho'; cases ho'
    · have := H.keep a o q hm; rw [ha] at this; cases this

theorem Led.new (H : Led K g h O N) (e : ∀ b o, h.get? b = some o → h'.get? b = some o) (hp : d.P h') (hf : ∀ a ∈ d.fp, h.get? a = none) (hn : d.fp.Nodup) :
    Led K g h' O (N ++ [d]) := by
  refine ⟨H.gd.ext e, fun x hx => ?_, ?_, fun x hx a ha => ?_, fun x hx a ha => ?_, fun b o hb hn => e _ _ (H.keep b o hb hn)⟩
  · rw [← List.append_assoc] at hx
    rcases List.mem_append.mp hx with q | q
    · exact x.st _ _ (fun a _ o ho => e a o ho) (H.all x q)
    · cases List.mem_singleton.mp q; exact hp
  · rw [← List.append_assoc, List.flatMap_append]
    refine List.nodup_append.mpr ⟨H.nd, by simpa using hn, fun a ha b hb hab => ?_⟩
    obtain ⟨x, hx, hax⟩ := List.mem_flatMap.mp ha
    obtain ⟨o, ho⟩ := H.lo hx hax
    have hb' : b ∈ d.fp := by simpa using hb
    rw [hab, hf b hb'] at ho; cases ho
  · rcases List.mem_append.mp hx with q | q
    · exact H.nw x q a ha
    · cases List.mem_singleton.mp q; exact H.fresh (hf a ha)
  · rw [← List.append_assoc] at hx
    rcases List.mem_append.mp hx with q | q
    · exact H.fr x q a ha
    · cases List.mem_singleton.mp q; exact H.gd.fre (hf a ha)

theorem mem_set {α : Type} {l : List α} {j : Nat} {x y : α} (h : x ∈ l.set j y) : x = y ∨ ∃ i, i ≠ j ∧ l[i]? = some x := by
  obtain ⟨i, hi, rfl⟩ := List.mem_iff_getElem.mp h
  rw [List.getElem_set]
  split
  · exact .inl rfl
  · rename_i q
    exact .inr ⟨i, fun e => q e.symm, by rw [List.getElem?_eq_getElem (by simpa using hi)]⟩

theorem fps_set {l : List HD} {j : Nat} (hj : l[j]? = some d) (hfp : d'.fp = d.fp) : (l.set j d').flatMap HD.fp = l.flatMap HD.fp := by
  induction l generalizing j with
  | nil => rfl
  | cons x l ih =>
    cases j with
    | zero => cases hj; simp [hfp]
    | succ j => simp only [List.set_cons_succ, List.flatMap_cons, ih (j := j) (by simpa using hj)]

theorem nodup_apart {l : List HD} (nd : (l.flatMap HD.fp).Nodup) {i j : Nat} {x y : HD} (hi : l[i]? = some x) (hj : l[j]? = some y) (hij : i ≠ j) {a : Addr} (hx : a ∈ x.fp) (hy : a ∈ y.fp) : False := by
  induction l generalizing i j with
  | nil => cases hi
  | cons z l ih =>
    rw [List.flatMap_cons, List.nodup_append] at nd
    obtain ⟨_, nd2, nd3⟩ := nd
    have inl : ∀ {k : Nat} {u : HD}, l[k]? = some u → a ∈ u.fp → a ∈ l.flatMap HD.fp := fun hk hu => List.mem_flatMap.mpr ⟨_, List.mem_of_getElem? hk, hu⟩
    cases i with
    | zero =>
      cases j with
      | zero => exact hij rfl
      | succ j => cases hi; exact nd3 a hx a (inl (by simpa using hj) hy) rfl
    | succ i =>
      cases j with
      | zero => cases hj; exact nd3 a hy a (inl (by simpa using hi) hx) rfl
      | succ j => exact ih nd2 (by simpa using hi) (by simpa using hj) (fun e => hij (by rw [e]))

/-- one of the things, old or new, at its place in O ++ N, changes -/
theorem Led.modAt (H : Led K g h O N) {O' N' : List HD} {j : Nat} (hs : O' ++ N' = (O ++ N).set j d') (hj : (O ++ N)[j]? = some d) (hfp : d'.fp = d.fp)
    (e : ∀ b o, b ∉ d.fp → h.get? b = some o → h'.get? b = some o) (hp : d'.P h') (hO : O'.flatMap HD.fp = O.flatMap HD.fp) (hN : ∀ x ∈ N', ∀ a ∈ x.fp, ∃ y ∈ N, a ∈ y.fp)
    (hkeep : j < O.length ∨ d ∈ N) : Led K g h' O' N' := by
  have hdm : d ∈ O ++ N := List.mem_of_getElem? hj
  refine ⟨H.gd.but (H.fr d hdm) e, fun x hx => ?_, ?_, fun x hx a ha => ?_, fun x hx a ha => ?_, fun b o hb hn => ?_⟩
  · rw [hs] at hx
    rcases mem_set hx with rfl | ⟨i, hij, hi⟩
    · exact hp
    · exact x.st _ _ (fun a ha o ho => e a o (fun hm => nodup_apart H.nd hi hj hij ha hm) ho) (H.all x (List.mem_of_getElem? hi))
  · rw [hs, fps_set hj hfp]; exact H.nd
  · obtain ⟨y, hy, hay⟩ := hN x hx a ha
    exact H.nw y hy a hay
  · rw [hs] at hx
    rcases mem_set hx with rfl | ⟨i, _, hi⟩
    · exact H.fr d hdm a (hfp ▸ ha)
    · exact H.fr x (List.mem_of_getElem? hi) a ha
  · rw [hO] at hn
    refine e b o (fun hm => ?_) (H.keep b o hb hn)
    rcases hkeep with q | q
    · have : O[j]? = some d := by rw [List.getElem?_append_left q] at hj; exact hj
      exact hn (List.mem_flatMap.mpr ⟨d, List.mem_of_getElem? this, hm⟩)
    · rw [H.nw d q b hm] at hb; cases hb

theorem Led.mod (H : Led K g h O N) {j : Nat} (hj : N[j]? = some d) (hfp : d'.fp = d.fp)
    (e : ∀ b o, b ∉ d.fp → h.get? b = some o → h'.get? b = some o) (hp : d'.P h') : Led K g h' O (N.set j d') := by
  refine H.modAt (j := O.length + j) (d := d) ?_ ?_ hfp e hp rfl (fun x hx a ha => ?_) (.inr (List.mem_of_getElem? hj))
  · rw [List.set_append_right _ _ (by omega), Nat.add_sub_cancel_left]
  · rw [List.getElem?_append_right (by omega), Nat.add_sub_cancel_left]; exact hj
  · rcases mem_set hx with rfl | ⟨i, _, hi⟩
    · exact ⟨d, List.mem_of_getElem? hj, hfp ▸ ha⟩
    · exact ⟨x, List.mem_of_getElem? hi, ha⟩

theorem Led.modO (H : Led K g h O N) {j : Nat} (hj : O[j]? = some d) (hfp : d'.fp = d.fp)
    (e : ∀ b o, b ∉ d.fp → h.get? b = some o → h'.get? b = some o) (hp : d'.P h') : Led K g h' (O.set j d') N := by
  have hlt : j < O.length := (List.getElem?_eq_some_iff.mp hj).1
  refine H.modAt (j := j) (d := d) ?_ ?_ hfp e hp (fps_set hj hfp) (fun x hx a ha => ⟨x, hx, ha⟩) (.inl hlt)
  · rw [List.set_append_left _ _ hlt]
  · rw [List.getElem?_append_left hlt]; exact hj

theorem Led.at (H : Led K g h O N) {j : Nat} (hj : N[j]? = some d) : d.P h := H.all d (List.mem_append_right _ (List.mem_of_getElem? hj))
theorem Led.atO (H : Led K g h O N) {j : Nat} (hj : O[j]? = some d) : d.P h := H.all d (List.mem_append_left _ (List.mem_of_getElem? hj))

theorem fps_sub {l l' : List HD} (hs : l'.Sublist l) : (l'.flatMap HD.fp).Sublist (l.flatMap HD.fp) := by
  induction hs with
  | slnil => exact List.Sublist.refl _
  | cons a _ ih => rw [List.flatMap_cons]; exact ih.trans (List.sublist_append_right _ _)
  | cons_cons a _ ih => rw [List.flatMap_cons, List.flatMap_cons]; exact List.Sublist.append (List.Sublist.refl _) ih

/-- fewer new things -/
theorem Led.sub (H : Led K g h O N) {N' : List HD} (hs : N'.Sublist N) : Led K g h O N' :=
  have hs' : (O ++ N').Sublist (O ++ N) := List.Sublist.append (List.Sublist.refl _) hs
  have hf : ((O ++ N').flatMap HD.fp).Sublist ((O ++ N).flatMap HD.fp) := fps_sub hs'
  ⟨H.gd, fun d hd => H.all d (hs'.subset hd), H.nd.sublist hf, fun d hd => H.nw d (hs.subset hd), fun d hd => H.fr d (hs'.subset hd), H.keep⟩
end

theorem sameBut_e {h h' : Heap} {a : Addr} (hs : Heap.SameBut a h h') : ∀ b o, b ∉ [a] → h.get? b = some o → h'.get? b = some o :=
  fun b o hb e => hs.extBut b o (by simpa using hb) e
theorem push_e {h : Heap} (o : Obj) : ∀ b o', h.get? b = some o' → (h.push o).get? b = some o' := fun _ _ e => Heap.get?_push_of_some _ e
theorem none_size (h : Heap) : h.get? h.objs.size = none := by
  cases q : h.get? h.objs.size with
  | none => rfl
  | some o => exact absurd (Heap.lt_size q) (Nat.lt_irrefl _)
end Mine
end

section
open PySem PySem.W PySem.Calls PyProof.Rows
namespace Mine
section
variable {prog : Program} {w : World} {A : Around} {E : Value → Shared → Prop} {K : Frag} {g h : Heap} {O N : List HD} {gs : Array GenState} {dr : Drawn} {tk : Nat} {os : OsState} {env : Env} {L : Addr} {lv : List (Str × Value)}

theorem r_loc {x : Str} {pos : Pos} {v : Value} {Q : Value → Shared → Prop} (hl : env.kindOf x = some .local) (hk : env.scope.kind = .function) (H : Led K g h O N) (hj : N[0]? = some (nsD L lv)) (hL : env.locals = L) (hv : lv.lookup x = some v)
    (hd : (x == ("__debug__" : Str)) = false) (q : Q v ⟨h, gs, dr, tk, os⟩) : wpAny (model prog w) A (eval (.Name x pos) env) Q E ⟨h, gs, dr, tk, os⟩ := by
  subst hL
  exact wpAny_Name (wpAny_loadName_local hk hl (H.at hj) hv q) hd

theorem r_sto {x : Str} {v : Value} {Q : Unit → Shared → Prop} (H : Led K g h O N) (hj : N[0]? = some (nsD L lv)) (hL : env.locals = L) (hk : env.scope.kind = .function) (hl : env.kindOf x = some .local)
    (q : ∀ h' tk', Led K g h' O (N.set 0 (nsD L ((x, v) :: lv))) → Q () ⟨h', gs, dr, tk', os⟩) : wpAny (model prog w) A (storeName env x v) Q E ⟨h, gs, dr, tk, os⟩ := by
  subst hL
  refine wpAny_storeName_local hl (H.at hj) (fun h' hn hs => q h' _ (H.mod hj rfl (sameBut_e hs) ?_)) (by rw [hk]; rfl)
  have : (fun y => ((x, v) :: lv).lookup y) = fun y => if y = x then some v else lv.lookup y := by
    funext y
    rw [List.lookup_cons]
    by_cases e : y = x
    · subst e; simp
    · rw [if_neg e, beq_eq_false_iff_ne.mpr e]
  show h'.Ns env.locals _
  rw [this]; exact hn

theorem r_glob {x : Str} {pos : Pos} {v : Value} {Q : Value → Shared → Prop} (hl : env.kindOf x = some .globalImplicit) (hk : env.scope.kind = .function) (H : Led K g h O N) (hg : env.globals = mainGlobals) (e : nsIn K mainGlobals x = some (some v))
    (hd : (x == ("__debug__" : Str)) = false) (q : Q v ⟨h, gs, dr, tk, os⟩) :
    wpAny (model prog w) A (eval (.Name x pos) env) Q E ⟨h, gs, dr, tk, os⟩ := by
  obtain ⟨mg, ng⟩ := H.gd.gl
  exact Name_function_global hk hl (loadGlobal_global (hg ▸ ng) (mg_of H.gd.frag ng e) q) hd

theorem r_blt {x : Str} {pos : Pos} {v : Value} {Q : Value → Shared → Prop} (hl : env.kindOf x = some .globalImplicit) (hk : env.scope.kind = .function) (H : Led K g h O N) (hg : env.globals = mainGlobals) (e : nsIn K mainGlobals x = some none)
    (hb : env.builtins = builtinsNs) (hbb : bootBuiltins x = some v) (hn : x ≠ "__name__") (hd : (x == ("__debug__" : Str)) = false) (q : Q v ⟨h, gs, dr, tk, os⟩) :
    wpAny (model prog w) A (eval (.Name x pos) env) Q E ⟨h, gs, dr, tk, os⟩ := by
  obtain ⟨mg, ng⟩ := H.gd.gl
  obtain ⟨mb, nb, hbt⟩ := H.gd.bt
  exact Name_function_global hk hl (loadGlobal_builtin (hg ▸ ng) (mg_none_of H.gd.frag ng e) (hb ▸ nb) ((hbt x hn).trans hbb) q) hd
end
end Mine
namespace Mine
section
variable {prog : Program} {w : World} {A : Around} {E : Value → Shared → Prop} {K : Frag} {g h : Heap} {O N : List HD} {gs : Array GenState} {dr : Drawn} {tk : Nat} {os : OsState} {env : Env} {L : Addr} {lv : List (Str × Value)}

/-- a new thing is let go, whatever it has become -/
theorem Led.drop {h' : Heap} {d : HD} (H : Led K g h O N) {j : Nat} (hj : N[j]? = some d) (e : ∀ b o, b ∉ d.fp → h.get? b = some o → h'.get? b = some o) : Led K g h' O (N.eraseIdx j) := by
  have hlt : j < N.length := (List.getElem?_eq_some_iff.mp hj).1
  have hsub : (N.eraseIdx j).Sublist N := List.eraseIdx_sublist N j
  have H' := H.sub hsub
  have hdm : d ∈ O ++ N := List.mem_append_right _ (List.mem_of_getElem? hj)
  have apart : ∀ x ∈ O ++ N.eraseIdx j, ∀ a ∈ x.fp, a ∉ d.fp := by
    intro x hx a ha hd
    have hjj : (O ++ N)[O.length + j]? = some d := by rw [List.getElem?_append_right (by omega), Nat.add_sub_cancel_left]; exact hj
    rcases List.mem_append.mp hx with q | q
    · obtain ⟨i, hi, rfl⟩ := List.mem_iff_getElem.mp q
      exact nodup_apart H.nd (i := i) (j := O.length + j) (by rw [List.getElem?_append_left hi, List.getElem?_eq_getElem hi]) hjj (by omega) ha hd
    · obtain ⟨i, hi, rfl⟩ := List.mem_iff_getElem.mp q
      rw [List.getElem_eraseIdx] at ha
      have hlen : (N.eraseIdx j).length = N.length - 1 := List.length_eraseIdx_of_lt hlt
      split at ha
      · rename_i hij
        exact nodup_apart H.nd (i := O.length + i) (j := O.length + j) (by rw [List.getElem?_append_right (by omega), Nat.add_sub_cancel_left, List.getElem?_eq_getElem]) hjj (by omega) ha hd
      · rename_i hij
        exact nodup_apart H.nd (i := O.length + (i + 1)) (j := O.length + j) (by rw [List.getElem?_append_right (by omega), Nat.add_sub_cancel_left, List.getElem?_eq_getElem]) hjj (by omega) ha hd
  refine ⟨H.gd.but (H.fr d hdm) e, fun x hx => x.st _ _ (fun a ha o ho => e a o (apart x hx a ha) ho) (H'.all x hx), H'.nd, H'.nw, H'.fr, fun b o hb hn => e b o (fun hm => ?_) (H.keep b o hb hn)⟩
  rw [H.nw d (List.mem_of_getElem? hj) b hm] at hb; cases hb

theorem Led.base (H : Led K g h [] N) {a : Addr} {o : Obj} (e : g.get? a = some o) : h.get? a = some o := H.keep a o e (by simp)
theorem Led.blist (H : Led K g h [] N) {l : Addr} {vs : Array Value} (hl : g.IsList l vs) : h.IsList l vs := hl.at fun o e => H.base e

/-- a plain list object -/
def plainD (a : Addr) (vs : List Value) : HD where
  fp := [a]
  P h := h.PlainList a vs.toArray
  st h h' e p := p.at (e a (.head _))
  al h p b hb := by cases hb with | head => (obtain ⟨o, ho⟩ := p; exact ⟨_, ho⟩) | tail _ q => cases q

theorem noCells {l : List (Str × NameKind)} (h : (l.all fun x => x.2 != .cell) = true) : ∀ x ∈ l, x.2 ≠ .cell := fun x hx => by simpa using List.all_eq_true.mp h x hx
/-- enter a def (no cells) -/
theorem r_enter {R : Result → Shared → Prop} {f : Addr} {oc : Value} {od : Option Addr} {sl : Array (Option Value)} {fd : FuncData} {body : List Stmt} {args : List Value} {binds : List (Str × Value)}
    (H : Led K h h O []) (hroom : A.depth < recursionLimit) (ho : K.lookup f = some ⟨oc, od, .func fd, sl⟩) (hcd : codeIn K fd.code fd.qualname = true) (hbody : fd.body = .stmts body)
    (hbind : bindArgs fd ⟨args, []⟩ = pure binds) (hcell : (fd.scope.names.all fun x => x.2 != .cell) = true) (hloc : (binds.all fun x => decide (fd.scope.names.lookup x.1 = some .local)) = true)
    (hlv : binds.reverse = lv) (hco : fd.scope.isCoroutine = false) (hgen : fd.scope.isGenerator = false) (hk : fd.scope.kind = .function)
    (q : ∀ (E' : Value → Shared → Prop) L h₁ tk₁, Led K h h₁ O [nsD L lv] → wpAny (model prog w) (A.deeper (callEnv fd L f)) (execs body (callEnv fd L f)) (fun fl s' => R (.ok (.ret (match fl with | .ret v => v | _ => .none))) s') E' ⟨h₁, gs, dr, tk₁, os⟩) :
    codeAny (model prog w) A (.call (.ref f) ⟨args, []⟩) R ⟨h, gs, dr, tk, os⟩ := by
  refine codeAny_call_def hroom (H.gd.frag f _ ho) rfl H.gd.nl (codeRec_of H.gd.frag hcd) hbody (BindsTo.of_eq hbind) (noCells hcell) (locs hloc) (fun h₁ hns hk₁ => ?_) hco hgen hk
  subst hlv
  exact q _ _ h₁ _ (H.new hk₁ hns (by intro a ha; cases List.mem_singleton.mp ha; exact none_size h) (by simp [nsD]))

/-- the end of a turn -/
inductive Nx (I : Nat → Heap → Prop) (n : Nat) (gs : Array GenState) (dr : Drawn) (os : OsState) : Shared → Prop
  | mk {m : Nat} {h : Heap} {tk : Nat} : m < n → I m h → Nx I n gs dr os ⟨h, gs, dr, tk, os⟩

/-- a while by an invariant over the heap -/
theorem r_while {test : PySem.Expr} {body orelse : List Stmt} {pos : Pos} {Q : Flow → Shared → Prop} (I : Nat → Heap → Prop) (n : Nat) (h0 : I n h)
    (turn : ∀ (E' : Value → Shared → Prop) n h tk, I n h → wpAny (model prog w) A (isTrue test env (eval test env)) (fun b s₂ =>
      if b then wpAny (model prog w) A (execs body env) (fun f s₃ => match f with
            | .next | .cont => Nx I n gs dr os s₃
            | .brk => Q .next s₃
            | .ret v => Q (.ret v) s₃) E' s₂
        else wpAny (model prog w) A (execs orelse env) Q E' s₂) E' ⟨h, gs, dr, tk, os⟩) :
    wpAny (model prog w) A (exec (.While test body orelse pos) env) Q E ⟨h, gs, dr, tk, os⟩ := by
  refine wpAny_While (codeAny_whileLoop (fun n s => ∃ h tk, I n h ∧ s = ⟨h, gs, dr, tk, os⟩) ?_ n ⟨h, tk, h0, rfl⟩)
  rintro n s ⟨h, tk, hI, rfl⟩
  refine wpAny_mono (turn _ n h tk hI) (fun b s₂ hb => ?_) fun _ _ e => e
  cases b with
  | false => simpa using hb
  | true =>
    simp only [if_true] at hb ⊢
    refine wpAny_mono hb (fun f s₃ hf => ?_) fun _ _ e => e
    cases f with
    | next => obtain ⟨hm, hI⟩ := hf; exact ⟨_, hm, _, _, hI, rfl⟩
    | cont => obtain ⟨hm, hI⟩ := hf; exact ⟨_, hm, _, _, hI, rfl⟩
    | brk => exact hf
    | ret v => exact hf

/-- a for by an invariant over the heap -/
theorem r_for {target iter : PySem.Expr} {body orelse : List Stmt} {pos : Pos} {Q : Flow → Shared → Prop}
    (hs : ∀ x, foldedSetIterable iter env x = pure x) 
    (hq : wpAny (model prog w) A (eval iter env) (fun x s₁ => wpAny (model prog w) A (pyIter x) (fun it s₂ => ∃ (I : Nat → Heap → Prop) (n : Nat) (h₂ : Heap) (tk₂ : Nat), s₂ = ⟨h₂, gs, dr, tk₂, os⟩ ∧ I n h₂ ∧ (∀ v, letOwnedTupleGo target it v = pure ()) ∧
      (∀ (E' : Value → Shared → Prop) n h tk, I n h → wpAny (model prog w) A (pyNext it) (fun r s₁ => match r with
        | none => wpAny (model prog w) A (execs orelse env) Q E' s₁
        | some v => wpAny (model prog w) A (assign target env v) (fun _ s₂ => wpAny (model prog w) A (execs body env) (fun f s₃ => match f with
            | .next | .cont => Nx I n gs dr os s₃
            | .brk => Q .next s₃
            | .ret v => Q (.ret v) s₃) E' s₂) E' s₁) E' ⟨h, gs, dr, tk, os⟩)) E s₁) E ⟨h, gs, dr, tk, os⟩) :
    wpAny (model prog w) A (exec (.For target iter body orelse pos) env) Q E ⟨h, gs, dr, tk, os⟩ := by
  refine wpAny_For (wpAny_mono hq (fun x s₁ h₁ => wpAny_mono h₁ (fun it s₂ h₂ => ?_) fun _ _ e => e) fun _ _ e => e) hs
  obtain ⟨I, n, h₂, tk₂, rfl, h0, ht, turn⟩ := h₂
  refine codeAny_forLoop (fun n s => ∃ h tk, I n h ∧ s = ⟨h, gs, dr, tk, os⟩) ?_ n ⟨h₂, tk₂, h0, rfl⟩ ht
  rintro n s ⟨h, tk, hI, rfl⟩
  refine wpAny_mono (turn _ n h tk hI) (fun r s₁ hr => ?_) fun _ _ e => e
  cases r with
  | none => exact hr
  | some v =>
    refine wpAny_mono hr (fun _ s₂ hb => wpAny_mono hb (fun f s₃ hf => ?_) fun _ _ e => e) fun _ _ e => e
    cases f with
    | next => obtain ⟨hm, hI⟩ := hf; exact ⟨_, hm, _, _, hI, rfl⟩
    | cont => obtain ⟨hm, hI⟩ := hf; exact ⟨_, hm, _, _, hI, rfl⟩
    | brk => exact hf
    | ret v => exact hf

theorem r_newList {vs : List Value} {Q : Value → Shared → Prop} (H : Led K g h O N) (hsz : vs.length ≤ sizeLine)
    (q : ∀ a h' tk', Led K g h' O (N ++ [plainD a vs]) → Q (.ref a) ⟨h', gs, dr, tk', os⟩) : wpAny (model prog w) A (newList vs) Q E ⟨h, gs, dr, tk, os⟩ := by
  refine wpAny_newList (q _ _ _ (H.new (push_e _) ⟨_, Heap.get?_push_size _ rfl⟩ (by intro a ha; cases List.mem_singleton.mp ha; exact none_size h) (by simp [plainD]))) ?_
  exact hsz
end
end Mine
namespace Mine
theorem rep_arr (vs : List Value) (n : Nat) : List.foldl (fun x1 x2 => x1 ++ x2) #[] (List.replicate n vs.toArray) = ((List.replicate n vs).flatten).toArray := by
  have key : ∀ (n : Nat) (acc : Array Value), List.foldl (fun x1 x2 => x1 ++ x2) acc (List.replicate n vs.toArray) = acc ++ ((List.replicate n vs).flatten).toArray := by
    intro n
    induction n with
    | zero => intro acc; simp
    | succ n ih => intro acc; rw [List.replicate_succ, List.foldl_cons, ih, List.replicate_succ, List.flatten_cons]; simp
  simpa using key n #[]

section
variable {prog : Program} {w : World} {A : Around} {E : Value → Shared → Prop} {K : Frag} {g h : Heap} {O N : List HD} {gs : Array GenState} {dr : Drawn} {tk : Nat} {os : OsState} {env : Env} {L : Addr} {lv : List (Str × Value)}

theorem r_mul {l : Addr} {vs : List Value} {x : Int} {u : Tok} {Q : Value → Shared → Prop} (H : Led K g h O N) (hl : h.PlainList l vs.toArray) (h0 : 0 ≤ x) (hhi : x < 2 ^ 63) (hsz : vs.length * x.toNat ≤ 2 ^ 24)
    (q : ∀ a h' tk', Led K g h' O (N ++ [plainD a (List.replicate x.toNat vs).flatten]) → Q (.ref a) ⟨h', gs, dr, tk', os⟩) :
    wpAny (model prog w) A (binaryOp .Mult (.ref l) (.int x u)) Q E ⟨h, gs, dr, tk, os⟩ := by
  obtain ⟨k, hl⟩ := hl
  have hsz' : vs.toArray.size * x.toNat ≤ 2 ^ 24 := by simpa using hsz
  have hT : (Shared.mk h gs dr tk os).TypeIs (.ref l) "list" := ⟨_, hl, rfl⟩
  refine wpAny_binaryOp_repeat_ref (T := "list") (U := "int") (by decide) hT (fun s' => typeIs_int s' x u) noFill_list_mul F.fills_int_mul F.slot_int_rmul repeat_list F.slot_int_index.lookup
    (call_meets F.slot_int_rmul (typeIs_int _ x u) F.entry_int_rmul (F.args_int_rmul_2 _ _) (int___rmul___int_list x u l vs.toArray k)
      ⟨hl, rfl, hT, call_meets F.slot_list_mul hT F.entry_list_mul (F.args_list_mul_2 _ _)
        (AutoListH.list___mul___list_int_3 l vs.toArray k x u (by simp [Builtin.List.listFitsIndex]; omega) (by omega) (by simp only [Builtin.List.listTooLong, sizeLine] at *; simp; simp at hsz'; omega))
        ⟨hl, ?_⟩⟩)
  refine q _ _ _ (H.new (push_e _) ⟨0, ?_⟩ (by intro a ha; cases List.mem_singleton.mp ha; exact none_size h) (by simp [plainD]))
  have e : List.foldl (fun x1 x2 => x1 ++ x2) #[] (List.replicate (if vs.toArray.isEmpty = true then 0 else x.toNat) vs.toArray) = ((List.replicate x.toNat vs).flatten).toArray := by
    by_cases hv : vs = []
    · subst hv; simp
    · have : vs.toArray.isEmpty = false := by simpa using hv
      rw [this]; exact rep_arr vs x.toNat
  rw [← e]; exact Heap.get?_push_size _ rfl

theorem r_len {l : Addr} {vs : List Value} {Q : Value → Shared → Prop} (hl : h.IsList l vs.toArray) (hfit : vs.length < 2 ^ 62)
    (q : ∀ t tk', Q (.int vs.length t) ⟨h, gs, dr, tk', os⟩) : wpAny (model prog w) A (call (.builtin "len") [.ref l]) Q E ⟨h, gs, dr, tk, os⟩ :=
  len_list (s := ⟨h, gs, dr, tk, os⟩) hl (by simp; omega) (by simpa using q _ _)

/-- a range, and its iterator -/
def rangeD (r : Addr) (a b c : Int) : HD where
  fp := [r]
  P h := ∃ t u v, IsRange h r a b c t u v
  st h h' e p := by obtain ⟨t, u, v, p⟩ := p; exact ⟨t, u, v, e r (.head _) _ p⟩
  al h p b hb := by cases hb with | head => (obtain ⟨_, _, _, p⟩ := p; exact ⟨_, p⟩) | tail _ q => cases q
def riD (r : Addr) (x left step : Int) : HD where
  fp := [r]
  P h := IsRangeIter h r x left step
  st h h' e p := e r (.head _) _ p
  al h p b hb := by cases hb with | head => exact ⟨_, p⟩ | tail _ q => cases q

theorem r_range2 {a b : Int} {t u : Tok} {Q : Value → Shared → Prop} (H : Led K g h O N)
    (q : ∀ r h' tk', Led K g h' O (N ++ [rangeD r a b 1]) → Q (.ref r) ⟨h', gs, dr, tk', os⟩) : wpAny (model prog w) A (call (.type "range") [.int a t, .int b u]) Q E ⟨h, gs, dr, tk, os⟩ :=
  call_range_2 (q _ _ _ (H.new (push_e _) ⟨_, _, _, IsRange.new ..⟩ (by intro a ha; cases List.mem_singleton.mp ha; exact none_size h) (by simp [rangeD])))
theorem r_range1 {b : Int} {u : Tok} {Q : Value → Shared → Prop} (H : Led K g h O N)
    (q : ∀ r h' tk', Led K g h' O (N ++ [rangeD r 0 b 1]) → Q (.ref r) ⟨h', gs, dr, tk', os⟩) : wpAny (model prog w) A (call (.type "range") [.int b u]) Q E ⟨h, gs, dr, tk, os⟩ :=
  call_range_1 (q _ _ _ (H.new (push_e _) ⟨_, _, _, IsRange.new ..⟩ (by intro a ha; cases List.mem_singleton.mp ha; exact none_size h) (by simp [rangeD])))
theorem r_range3 {a b c : Int} {t u v : Tok} {Q : Value → Shared → Prop} (H : Led K g h O N) (hc : c ≠ 0) (hp : Builtin.divisionGoesByPylong (b - a) c = false)
    (q : ∀ r h' tk', Led K g h' O (N ++ [rangeD r a b c]) → Q (.ref r) ⟨h', gs, dr, tk', os⟩) : wpAny (model prog w) A (call (.type "range") [.int a t, .int b u, .int c v]) Q E ⟨h, gs, dr, tk, os⟩ :=
  call_range_3 hc (q _ _ _ (H.new (push_e _) ⟨_, _, _, IsRange.new ..⟩ (by intro a ha; cases List.mem_singleton.mp ha; exact none_size h) (by simp [rangeD]))) (.inl hp)
theorem r_iterR {r : Addr} {a b c : Int} {j : Nat} {Q : Value → Shared → Prop} (H : Led K g h O N) (hj : N[j]? = some (rangeD r a b c)) (hs : Builtin.Range.small a b c = true)
    (q : ∀ i h' tk', Led K g h' O (N ++ [riD i a (Builtin.Range.rangeSize a b c) c]) → Q (.ref i) ⟨h', gs, dr, tk', os⟩) : wpAny (model prog w) A (pyIter (.ref r)) Q E ⟨h, gs, dr, tk, os⟩ := by
  obtain ⟨t, u, v, p⟩ := H.at hj
  exact wpAny_pyIter_range p hs (q _ _ _ (H.new (push_e _) (Heap.get?_push_size _ rfl) (by intro a ha; cases List.mem_singleton.mp ha; exact none_size h) (by simp [riD])))
theorem r_nextR {i : Addr} {x left step : Int} {j : Nat} {Q : Option Value → Shared → Prop} (H : Led K g h O N) (hj : N[j]? = some (riD i x left step)) (hl : 0 < left)
    (q : ∀ t h' tk', Led K g h' O (N.set j (riD i (x + step) (left - 1) step)) → Q (some (.int x t)) ⟨h', gs, dr, tk', os⟩) : wpAny (model prog w) A (pyNext (.ref i)) Q E ⟨h, gs, dr, tk, os⟩ :=
  wpAny_pyNext_range_item (H.at hj) hl (fun h' hi hs => q _ h' _ (H.mod hj rfl (sameBut_e hs) hi))
theorem r_nextR_end {i : Addr} {x left step : Int} {j : Nat} {Q : Option Value → Shared → Prop} (H : Led K g h O N) (hh : A.handled = none) (hj : N[j]? = some (riD i x left step)) (hl : left ≤ 0)
    (q : ∀ h' tk', Led K g h' O (N.eraseIdx j) → Q none ⟨h', gs, dr, tk', os⟩) : wpAny (model prog w) A (pyNext (.ref i)) Q E ⟨h, gs, dr, tk, os⟩ := by
  refine wpAny_pyNext_range_end hh (H.at hj) hl (fun h' he => q h' _ ?_)
  exact H.drop hj fun b o hb e => he b o (by simpa [riD] using hb) e
end
end Mine
namespace Mine
theorem Paired.get {α β : Type} {F : α → β → Prop} : ∀ {l₁ : List α} {l₂ : List β}, Paired F l₁ l₂ → ∀ {i : Nat} {y : β}, l₂[i]? = some y → ∃ x, l₁[i]? = some x ∧ F x y
  | _, _, .nil, _, _, h => by simp at h
  | _, _, .cons h₁ t, i, y, h => by
    cases i with
    | zero => simp at h; subst h; exact ⟨_, by simp, h₁⟩
    | succ i => simp at h; obtain ⟨x, hx, hf⟩ := Paired.get t h; exact ⟨x, by simpa using hx, hf⟩
theorem Paired.set {α β : Type} {F : α → β → Prop} {a : α} {b : β} (hab : F a b) : ∀ {l₁ : List α} {l₂ : List β}, Paired F l₁ l₂ → ∀ (i : Nat), Paired F (l₁.set i a) (l₂.set i b)
  | _, _, .nil, _ => .nil
  | _, _, .cons h₁ t, i => by
    cases i with
    | zero => exact .cons hab t
    | succ i => exact .cons h₁ (Paired.set hab t i)
theorem Paired.app {α β : Type} {F : α → β → Prop} : ∀ {l₁ : List α} {l₂ : List β} {m₁ : List α} {m₂ : List β}, Paired F l₁ l₂ → Paired F m₁ m₂ → Paired F (l₁ ++ m₁) (l₂ ++ m₂)
  | _, _, _, _, .nil, h => h
  | _, _, _, _, .cons h₁ t, h => .cons h₁ (Paired.app t h)
theorem Paired.rep {α β : Type} {F : α → β → Prop} {a : α} {b : β} (hab : F a b) : ∀ n : Nat, Paired F (List.replicate n a) (List.replicate n b)
  | 0 => .nil
  | n + 1 => .cons hab (Paired.rep hab n)

section
variable {prog : Program} {w : World} {A : Around} {E : Value → Shared → Prop} {K : Frag} {g h : Heap} {O N : List HD} {gs : Array GenState} {dr : Drawn} {tk : Nat} {os : OsState} {env : Env} {L : Addr} {lv : List (Str × Value)}

theorem Led.conv {d d' : HD} (H : Led K g h O N) {j : Nat} (hj : N[j]? = some d) (hfp : d'.fp = d.fp) (hP : d.P h → d'.P h) : Led K g h O (N.set j d') := H.mod hj hfp (fun _ _ _ e => e) (hP (H.at hj))

theorem r_item {value slice : PySem.Expr} {l : Addr} {vs : List Value} {k : Int} {u : Tok} {v : Value} {Q : Value → Shared → Prop} (hl : h.IsList l vs.toArray) (h0 : 0 ≤ k) (hhi : k < 2 ^ 63) (hx : vs[k.toNat]? = some v) (q : Q v ⟨h, gs, dr, tk, os⟩)
    (hs : subscripted slice false (.ref l) (.int k u) = operate [.ref l, .int k u] (getItem (.ref l) (.int k u))) :
    wpAny (model prog w) A (subscriptTail value slice (.ref l) (.int k u)) Q E ⟨h, gs, dr, tk, os⟩ :=
  tail_any (s := ⟨h, gs, dr, tk, os⟩) hl.typeIs slot_list_getitem.lookup (wpAny_getItem_list hl h0 hhi (by simpa using hx) q) hs
theorem r_itemS {value slice : PySem.Expr} {l : Addr} {vs : List Value} {xs : List Str} {k : Int} {u : Tok} {x : Str} {Q : Value → Shared → Prop} (hl : h.IsList l vs.toArray) (hp : Paired SV vs xs) (h0 : 0 ≤ k) (hhi : k < 2 ^ 63) (hx : xs[k.toNat]? = some x)
    (q : ∀ t, Q (.str x t) ⟨h, gs, dr, tk, os⟩)
    (hs : subscripted slice false (.ref l) (.int k u) = operate [.ref l, .int k u] (getItem (.ref l) (.int k u))) :
    wpAny (model prog w) A (subscriptTail value slice (.ref l) (.int k u)) Q E ⟨h, gs, dr, tk, os⟩ := by
  obtain ⟨v, hv, t, rfl⟩ := Paired.get hp hx
  exact r_item hl h0 hhi hv (q t) hs
theorem r_itemI {value slice : PySem.Expr} {l : Addr} {xs : List Int} {j : Nat} {k : Int} {u : Tok} {x : Int} {Q : Value → Shared → Prop} (H : Led K g h O N) (hj : N[j]? = some (intsD l xs)) (h0 : 0 ≤ k) (hhi : k < 2 ^ 63) (hx : xs[k.toNat]? = some x)
    (q : ∀ t, Q (.int x t) ⟨h, gs, dr, tk, os⟩)
    (hs : subscripted slice false (.ref l) (.int k u) = operate [.ref l, .int k u] (getItem (.ref l) (.int k u))) :
    wpAny (model prog w) A (subscriptTail value slice (.ref l) (.int k u)) Q E ⟨h, gs, dr, tk, os⟩ := by
  obtain ⟨vs, hl, hp⟩ := H.at hj
  obtain ⟨v, hv, t, rfl⟩ := Paired.get hp hx
  exact r_item hl h0 hhi hv (q t) hs
theorem r_setI {l : Addr} {xs : List Int} {j : Nat} {k : Int} {t u : Tok} {x : Int} {Q : Unit → Shared → Prop} (H : Led K g h O N) (hj : N[j]? = some (intsD l xs)) (h0 : 0 ≤ k) (hhi : k < 2 ^ 63) (hx : k < xs.length)
    (q : ∀ h' tk', Led K g h' O (N.set j (intsD l (xs.set k.toNat x))) → Q () ⟨h', gs, dr, tk', os⟩) :
    wpAny (model prog w) A (setItem (.ref l) (.int k t) (.int x u)) Q E ⟨h, gs, dr, tk, os⟩ := by
  obtain ⟨vs, hl, hp⟩ := H.at hj
  have hlen := hp.length
  refine wpAny_setItem_list hl h0 hhi (by simp [hlen, hx]) (fun h' hl' hs => q h' _ (H.mod hj rfl (sameBut_e hs) ⟨vs.set k.toNat (.int x u), ?_, Paired.set ⟨u, rfl⟩ hp _⟩))
  simpa using hl'
end
end Mine
namespace Mine
section
variable {prog : Program} {w : World} {A : Around} {E : Value → Shared → Prop} {h : Heap} {gs : Array GenState} {dr : Drawn} {tk : Nat} {os : OsState} {env : Env} {a b : Int} {t u : Tok} {Q : Value → Shared → Prop}
theorem r_cint {k : Nat} {pos : Pos} (q : ∀ t tk', Q (.int a t) ⟨h, gs, dr, tk', os⟩) : wpAny (model prog w) A (eval (.Constant (.int a) k pos) env) Q E ⟨h, gs, dr, tk, os⟩ := wpAny_Constant_int (q _ _)
theorem r_cstr {x : Str} {k : Nat} {pos : Pos} (q : ∀ t tk', Q (.str x t) ⟨h, gs, dr, tk', os⟩) : wpAny (model prog w) A (eval (.Constant (.str x) k pos) env) Q E ⟨h, gs, dr, tk, os⟩ := Calls.Constant_str (q _ _)
theorem r_add (q : ∀ t tk', Q (.int (a + b) t) ⟨h, gs, dr, tk', os⟩) : wpAny (model prog w) A (binaryOp .Add (.int a t) (.int b u)) Q E ⟨h, gs, dr, tk, os⟩ := add_int (q _ _)
theorem r_sub (q : ∀ t tk', Q (.int (a - b) t) ⟨h, gs, dr, tk', os⟩) : wpAny (model prog w) A (binaryOp .Sub (.int a t) (.int b u)) Q E ⟨h, gs, dr, tk, os⟩ := sub_int (q _ _)
theorem r_mod (hb : 0 < b) (q : ∀ t tk', Q (.int (a % b) t) ⟨h, gs, dr, tk', os⟩) : wpAny (model prog w) A (binaryOp .Mod (.int a t) (.int b u)) Q E ⟨h, gs, dr, tk, os⟩ :=
  mod_int' (by omega) (by rw [Int.fmod_eq_emod_of_nonneg _ (by omega)]; exact q _ _)
theorem r_addS {x y : Str} (hsz : x.length + y.length ≤ sizeLine) (q : ∀ t tk', Q (.str (x ++ y) t) ⟨h, gs, dr, tk', os⟩) : wpAny (model prog w) A (binaryOp .Add (.str x t) (.str y u)) Q E ⟨h, gs, dr, tk, os⟩ := add_str (fun t' tk' => q t' tk') hsz
end
end Mine
end

section
open PySem PySem.W PySem.Calls PyProof.Rows
namespace Mine
theorem lookup_nd {α : Type} : ∀ {l : List (Str × α)}, (l.map Prod.fst).Nodup → ∀ p ∈ l, l.lookup p.1 = some p.2
  | [], _, _, h => (nomatch h)
  | (k, v) :: r, nd, p, h => by
    rw [List.map_cons, List.nodup_cons] at nd
    rw [List.lookup_cons]
    rcases List.mem_cons.mp h with rfl | h
    · simp
    · have : (p.1 == k) = false := beq_eq_false_iff_ne.mpr fun e => nd.1 (List.mem_map.mpr ⟨p, h, e⟩)
      rw [this]; exact lookup_nd nd.2 p h
section
variable {prog : Program} {w : World} {A : Around} {E : Value → Shared → Prop} {K : Frag} {g h : Heap} {O N : List HD} {gs : Array GenState} {dr : Drawn} {tk : Nat} {os : OsState} {env : Env}

/-- new things, fresh for an earlier heap -/
theorem Led.adds {h0 : Heap} {O0 N0 D : List HD} (H0 : Led K g h0 O0 N0) (H : Led K g h O N) (hfp : (O ++ N).flatMap HD.fp = (O0 ++ N0).flatMap HD.fp)
    (hp : ∀ d ∈ D, d.P h) (hf : ∀ d ∈ D, ∀ a ∈ d.fp, h0.get? a = none) (hn : (D.flatMap HD.fp).Nodup) : Led K g h O (N ++ D) := by
  refine ⟨H.gd, fun x hx => ?_, ?_, fun x hx a ha => ?_, fun x hx a ha => ?_, H.keep⟩
  · rw [← List.append_assoc] at hx
    rcases List.mem_append.mp hx with q | q
    · exact H.all x q
    · exact hp x q
  · rw [← List.append_assoc, List.flatMap_append]
    refine List.nodup_append.mpr ⟨H.nd, hn, fun a ha b hb hab => ?_⟩
    subst hab
    rw [hfp] at ha
    obtain ⟨x, hx, hax⟩ := List.mem_flatMap.mp ha
    obtain ⟨y, hy, hay⟩ := List.mem_flatMap.mp hb
    obtain ⟨o, ho⟩ := H0.lo hx hax
    rw [hf y hy a hay] at ho; cases ho
  · rcases List.mem_append.mp hx with q | q
    · exact H.nw x q a ha
    · exact H0.fresh (hf x q a ha)
  · rw [← List.append_assoc] at hx
    rcases List.mem_append.mp hx with q | q
    · exact H.fr x q a ha
    · exact H0.gd.fre (hf x q a ha)

/-- enter a def with cells -/
theorem r_enterN {R : Result → Shared → Prop} {f : Addr} {oc : Value} {od : Option Addr} {sl : Array (Option Value)} {fd : FuncData} {body : List Stmt} {args : List Value} {binds lv : List (Str × Value)} {D : Addr → List HD} {ns : List Str}
    (H : Led K h h O []) (hroom : A.depth < recursionLimit) (ho : K.lookup f = some ⟨oc, od, .func fd, sl⟩) (hcd : codeIn K fd.code fd.qualname = true) (hbody : fd.body = .stmts body)
    (hbind : bindArgs fd ⟨args, []⟩ = pure binds) (hclo : fd.closure = []) (hns : ∀ L, (cellsFrom L fd.scope.names []).map Prod.fst = ns) (hnd : ns.Nodup)
    (hD : ∀ L, (cellsFrom (L + 1) fd.scope.names []).map (fun p => cellD p.2 (bindC (callEnvC fd L f).kindOf binds (fun _ => none) p.1)) = D L)
    (hkind : ∀ L, ∀ x ∈ binds, fd.scope.names.lookup x.1 = some .local ∨ (fd.scope.names.lookup x.1 = some .cell ∧ ((cellsFrom L fd.scope.names []).lookup x.1).isSome = true))
    (hbl : ∀ L, bindL (callEnvC fd L f).kindOf binds (fun _ => none) = fun y => lv.lookup y)
    (hco : fd.scope.isCoroutine = false) (hgen : fd.scope.isGenerator = false) (hk : fd.scope.kind = .function)
    (q : ∀ (E' : Value → Shared → Prop) L h₁ tk₁, Led K h h₁ O (nsD L lv :: D L) → wpAny (model prog w) (A.deeper (callEnvC fd L f)) (execs body (callEnvC fd L f)) (fun fl s' => R (.ok (.ret (match fl with | .ret v => v | _ => .none))) s') E' ⟨h₁, gs, dr, tk₁, os⟩) :
    codeAny (model prog w) A (.call (.ref f) ⟨args, []⟩) R ⟨h, gs, dr, tk, os⟩ := by
  refine codeAny_call_cells (s := ⟨h, gs, dr, tk, os⟩) hroom (H.gd.frag f _ ho) rfl H.gd.nl (codeRec_of H.gd.frag hcd) hbody hbind hclo (hkind _) (fun s₁ I => ?_) hco hgen hk
  obtain ⟨h', tk', rfl, hkp⟩ := I.done
  have hns' : h'.Ns h.objs.size (fun y => lv.lookup y) := by have := I.toInCall.ns; rw [hbl] at this; exact this
  have hap : (cellsFrom (h.objs.size + 1) fd.scope.names []).Pairwise fun x y => x.2 ≠ y.2 := I.apart
  have hab : ∀ n c, (n, c) ∈ cellsFrom (h.objs.size + 1) fd.scope.names [] → h.objs.size < c := I.above
  have hfps : (D h.objs.size).flatMap HD.fp = (cellsFrom (h.objs.size + 1) fd.scope.names []).map Prod.snd := by
    rw [← hD]
    generalize cellsFrom (h.objs.size + 1) fd.scope.names [] = l
    induction l with
    | nil => rfl
    | cons p l ih => rw [List.map_cons, List.flatMap_cons, ih]; rfl
  have hmem : ∀ d ∈ D h.objs.size, ∃ p ∈ cellsFrom (h.objs.size + 1) fd.scope.names [], d = cellD p.2 (bindC (callEnvC fd h.objs.size f).kindOf binds (fun _ => none) p.1) := by
    intro d hd
    rw [← hD] at hd
    obtain ⟨p, hp, rfl⟩ := List.mem_map.mp hd
    exact ⟨p, hp, rfl⟩
  refine q _ h.objs.size h' tk' ?_
  refine (H.adds (D := nsD h.objs.size lv :: D h.objs.size) (H.ext hkp) rfl (fun d hd => ?_) (fun d hd a ha => ?_) ?_)
  · rcases List.mem_cons.mp hd with rfl | hd
    · exact hns'
    · obtain ⟨p, hp, rfl⟩ := hmem d hd
      exact I.cell p.1 p.2 (lookup_nd (by show ((cellsFrom (h.objs.size + 1) fd.scope.names []).map Prod.fst).Nodup; rw [hns]; exact hnd) p hp)
  · rcases List.mem_cons.mp hd with rfl | hd
    · cases List.mem_singleton.mp ha; exact none_size h
    · obtain ⟨p, hp, rfl⟩ := hmem d hd
      cases List.mem_singleton.mp ha
      exact Heap.get?_none_of_le (Nat.le_of_lt (hab p.1 p.2 hp))
  · rw [List.flatMap_cons, hfps]
    refine List.nodup_cons.mpr ⟨fun hm => ?_, List.pairwise_map.mpr hap⟩
    obtain ⟨p, hp, e⟩ := List.mem_map.mp hm
    have := hab p.1 p.2 hp
    exact Nat.lt_irrefl _ (Nat.lt_of_lt_of_le this (Nat.le_of_eq e))

theorem r_stoC {x : Str} {v : Value} {v₀ : Option Value} {c : Addr} {j : Nat} {Q : Unit → Shared → Prop} (H : Led K g h O N) (hj : N[j]? = some (cellD c v₀)) (hk : env.scope.kind = .function) (hl : env.kindOf x = some .cell) (hc : env.cells.lookup x = some c)
    (q : ∀ h', Led K g h' O (N.set j (cellD c (some v))) → Q () ⟨h', gs, dr, tk, os⟩) : wpAny (model prog w) A (storeName env x v) Q E ⟨h, gs, dr, tk, os⟩ :=
  wpAny_storeName_cell hk hl hc (H.at hj) (fun h' hv hs => q h' (H.mod hj rfl (sameBut_e hs) hv))

/-- the new things in another order, or fewer -/
theorem Led.perm {N' : List HD} (H : Led K g h O N) (hp : N'.Perm N) : Led K g h O N' := by
  have hP : (O ++ N').Perm (O ++ N) := List.Perm.append_left _ hp
  exact ⟨H.gd, fun d hd => H.all d (hP.subset hd), (hP.flatMap_right HD.fp).nodup_iff.mpr H.nd, fun d hd => H.nw d (hp.subset hd), fun d hd => H.fr d (hP.subset hd), H.keep⟩

/-- the end of a comprehension: its names' place is emptied -/
def CEnd (C D : Addr) (Q : Value → Shared → Prop) (s : Shared) : Prop := ∃ m, s.heap.Ns C m ∧ ∀ h', Heap.SameBut C s.heap h' → Q (.ref D) { s with heap := h' }
theorem CEnd.mk {C D : Addr} {lv : List (Str × Value)} {j : Nat} {Q : Value → Shared → Prop} (H : Led K g h O N) (hj : N[j]? = some (nsD C lv)) (q : ∀ h', Led K g h' O (N.eraseIdx j) → Q (.ref D) ⟨h', gs, dr, tk, os⟩) : CEnd C D Q ⟨h, gs, dr, tk, os⟩ :=
  ⟨_, H.at hj, fun h' hs => q h' (H.drop hj fun b o hb e => hs.extBut b o (by simpa [nsD] using hb) e)⟩

theorem compTurn_two0 (elt t0 i0 t1 i1 : PySem.Expr) (f0 f1 : List PySem.Expr) (scope : Scope) (pos : Pos) (it acc : Value) (env : Env) :
    compTurn (.ListComp elt [⟨t0, i0, f0, 0⟩, ⟨t1, i1, f1, 0⟩] scope pos) 0 it acc env = (do
      standAt i0.pos
      match ← pyNext it with
      | none => pure (.done .next)
      | some v =>
        letOwnedTupleGo t0 it v
        assign t0 env v
        let mut ok := true
        for c in f0 do
          if ok then ok ← isTrue c env (eval c env)
        if ok then
          let x ← eval i1 env
          standAt i1.pos
          let x ← foldedSetIterable i1 env x
          let _ ← runOwn (.compStart (.ListComp elt [⟨t0, i0, f0, 0⟩, ⟨t1, i1, f1, 0⟩] scope pos) 1 (← holding [x] (pyIter x)) acc env) env
        again (.compLoop (.ListComp elt [⟨t0, i0, f0, 0⟩, ⟨t1, i1, f1, 0⟩] scope pos) 0 it acc env)) := by rfl
theorem compTurn_two1 (elt t0 i0 t1 i1 : PySem.Expr) (f0 f1 : List PySem.Expr) (scope : Scope) (pos : Pos) (it acc : Value) (env : Env) :
    compTurn (.ListComp elt [⟨t0, i0, f0, 0⟩, ⟨t1, i1, f1, 0⟩] scope pos) 1 it acc env = (do
      standAt i1.pos
      match ← pyNext it with
      | none => pure (.done .next)
      | some v =>
        letOwnedTupleGo t1 it v
        assign t1 env v
        let mut ok := true
        for c in f1 do
          if ok then ok ← isTrue c env (eval c env)
        if ok then
          (do let _ ← call (.builtin "list.append") [acc, ← eval elt env])
        again (.compLoop (.ListComp elt [⟨t0, i0, f0, 0⟩, ⟨t1, i1, f1, 0⟩] scope pos) 1 it acc env)) := by rfl

theorem compStart_any {elt : PySem.Expr} {gens : List Comprehension} {scope : Scope} {pos : Pos} {d : Nat} {t i : PySem.Expr} {ifs : List PySem.Expr} {it acc : Value} {R : Result → Shared → Prop} {s : Shared} (hg : gens[d]? = some ⟨t, i, ifs, 0⟩)
    (hself : ∀ (Q : Value → Shared → Prop) E', Q it s → wpAny (model prog w) A (pyIter it) Q E' s)
    (h0 : codeAny (model prog w) A (.compLoop (.ListComp elt gens scope pos) d it acc env) R s) :
    codeAny (model prog w) A (.compStart (.ListComp elt gens scope pos) d it acc env) R s := by
  refine codeAny_of_tree ?_
  show wpAny _ A ((compStart (.ListComp elt gens scope pos) d it acc env).onRaise (fun x => do noteFrame x env; standAt theWindowsPlace)) _ _ s
  refine wpAny_notedAt ?_
  unfold compStart
  rw [show clausesOf (.ListComp elt gens scope pos) = gens from rfl, hg]
  show wpAny _ _ (ask >>= _) _ _ s
  refine wpAny_bind (wpAny_askSetting (wpAny_ite ?_))
  split
  · first
      | exact wpAny_bind (wpAny_pure (wpAny_pure (And.intro rfl h0)))
      | exact wpAny_pure (And.intro rfl h0)
  · first
      | exact wpAny_bind (wpAny_rule (wpAny_bind (wpAny_standAt (wpAny_bind (hself _ _ (wpAny_pure (And.intro rfl h0)))))))
      | (refine wpAny_bind (wpAny_rule ?_); show wpAny _ _ (standAt i.pos >>= _) _ _ s; exact wpAny_bind (wpAny_standAt (wpAny_bind (hself _ _ (wpAny_pure (And.intro rfl h0))))))

/-- what a comprehension's use asks -/
def UEnd (M : Model) (A : Around) (E : Value → Shared → Prop) (use : Option (Value → Sem Unit)) (C D : Addr) (Q : Value → Shared → Prop) (s : Shared) : Prop :=
  match use with
  | none => CEnd C D Q s
  | some u => wpAny M A (u (.ref D)) (fun _ s'' => ∃ m, s''.heap.Ns C m ∧ ∀ h', Heap.SameBut C s''.heap h' → Q .none { s'' with heap := h' }) E s

/-- a list comprehension with one for -/
theorem comp_core {elt target iter : PySem.Expr} {ifs : List PySem.Expr} {scope : Scope} {pos : Pos} {cl : List (Str × Addr)} {use : Option (Value → Sem Unit)} {Q : Value → Shared → Prop}
    (hs : ∀ x, foldedSetIterable iter env x = pure x) (hclos : closureFor scope env = pure cl) (hcell : (scope.names.all fun x => x.2 != .cell) = true) (hkind : scope.kind = .function)
    (hnames : (scope.names.all fun x => decide (x.2 = .local → scope.names.lookup x.1 = some .local)) = true)
    (hq : wpAny (model prog w) A (eval iter env) (fun x s₁ => wpAny (model prog w) A (pyIter x) (fun it s₂ => ∃ (g h₂ : Heap) (tk₂ : Nat) (O N : List HD), s₂ = ⟨h₂, gs, dr, tk₂, os⟩ ∧ Led K g h₂ O N ∧ (∀ v, letOwnedTupleGo target it v = pure ()) ∧
      (∀ C D h₃ tk₃, Led K g h₃ O (nsD C [] :: (N ++ [plainD D []])) → (∀ (Q : Value → Shared → Prop) E', Q it ⟨h₃, gs, dr, tk₃, os⟩ → wpAny (model prog w) A (pyIter it) Q E' ⟨h₃, gs, dr, tk₃, os⟩) ∧
        ∃ (I : Nat → Heap → Prop) (n : Nat), I n h₃ ∧ 
        (∀ (E' : Value → Shared → Prop) n h tk, I n h → wpAny (model prog w) A (pyNext it) (fun r s₁ => match r with
          | none => UEnd (model prog w) A E use C D Q s₁
          | some v => wpAny (model prog w) A (assign target (compEnvC scope cl C env) v) (fun _ s₂ => wpAny (model prog w) A (forIn ifs true fun c r => if r = true then do let ok ← isTrue c (compEnvC scope cl C env) (eval c (compEnvC scope cl C env)); pure (ForInStep.yield ok) else pure (ForInStep.yield r)) (fun ok s₃ => if ok = true then wpAny (model prog w) A (eval elt (compEnvC scope cl C env)) (fun y s₄ =>
              wpAny (model prog w) A (call (.builtin "list.append") [.ref D, y]) (fun _ s₅ => Nx I n gs dr os s₅) E' s₄) E' s₃ else Nx I n gs dr os s₃) E' s₂) E' s₁) E' ⟨h, gs, dr, tk, os⟩))) E s₁) E ⟨h, gs, dr, tk, os⟩) :
    wpAny (model prog w) A (comprehension (.ListComp elt [⟨target, iter, ifs, 0⟩] scope pos) scope env (firstIterPos [⟨target, iter, ifs, 0⟩] pos) (newList []) false (eval iter env) use) Q E ⟨h, gs, dr, tk, os⟩ := by
  refine wpAny_comprehension_free (g := ⟨target, iter, ifs, 0⟩) (gs := []) rfl hs hclos hkind (fun x hx => of_decide_eq_true (List.all_eq_true.mp hnames x hx)) ?_
  refine wpAny_mono hq (fun x s₁ h₁ => wpAny_mono h₁ (fun it s₂ h₂ => ?_) fun _ _ e => e) fun _ _ e => e
  obtain ⟨g, h₂, tk₂, O, N, rfl, H2, ht, body⟩ := h₂
  refine wpAny_newObj_type ?_ (by size_fits)
  have H3 := H2.new (h' := h₂.push { cls := .type "list", dict := none, data := .seq ([] : List Value).toArray }) (d := plainD h₂.objs.size []) (push_e _) ⟨_, Heap.get?_push_size _ rfl⟩ (by intro a ha; cases List.mem_singleton.mp ha; exact none_size h₂) (by simp [plainD])
  dsimp only
  refine wpAny_newFunctionEnv (noCells hcell) (by intro y hy; simp at hy) (fun h₄ hns₄ hsb₄ => ?_) hkind
  have H4 := H3.new (h' := h₄) (d := nsD (h₂.push _).objs.size []) (fun b o e => hsb₄.extBut b o (Nat.ne_of_lt (Heap.lt_size e)) (Heap.get?_push_of_some _ e)) hns₄ (by intro a ha; cases List.mem_singleton.mp ha; exact none_size _) (by simp [nsD])
  have H5 := H4.perm (N' := nsD (h₂.push _).objs.size [] :: (N ++ [plainD h₂.objs.size []])) (List.perm_append_singleton _ _).symm
  obtain ⟨hself, I, n, h0, turn⟩ := body (h₂.push { cls := .type "list", dict := none, data := .seq ([] : List Value).toArray }).objs.size h₂.objs.size h₄ _ H5
  refine compStart_any (t := target) (i := iter) (ifs := ifs) rfl (fun Q E' q => hself Q E' q) ?_
  refine codeAny_loop rfl (fun n s => ∃ h tk, I n h ∧ s = ⟨h, gs, dr, tk, os⟩) ?_ n ⟨h₄, _, h0, rfl⟩
  rintro n s ⟨h, tk, hI, rfl⟩
  show wpAny _ _ ((compTurn (.ListComp elt [⟨target, iter, ifs, 0⟩] scope pos) 0 it (.ref h₂.objs.size) _).onRaise (fun x => do noteFrame x _; theTreesLotGoes x)) _ _ _
  refine wpAny_noted ?_
  rw [compTurn_list]
  refine wpAny_bind (wpAny_standAt (wpAny_bind (wpAny_mono (turn _ n h tk hI) (fun r s₁ h₁ => ?_) fun _ _ h' => h')))
  cases r with
  | none =>
    refine wpAny_pure ?_
    unfold UEnd at h₁
    cases use with
    | none => exact h₁
    | some u => exact h₁
  | some v =>
    refine wpAny_bind (wpAny_of_eq (ht v) ?_)
    refine wpAny_bind (wpAny_mono h₁ (fun _ s₂ h₂ => wpAny_bind (wpAny_mono h₂ (fun ok s₃ h₃ => ?_) fun _ _ h' => h')) fun _ _ h' => h')
    cases ok with
    | false =>
      obtain ⟨hm, hI⟩ : Nx I n gs dr os s₃ := h₃
      exact wpAny_pure ⟨rfl, _, hm, _, _, hI, rfl⟩
    | true =>
      exact wpAny_bind (wpAny_bind (wpAny_mono h₃ (fun x s₄ h₄ => wpAny_bind (wpAny_mono h₄ (fun _ s₅ h₅ => wpAny_pure (wpAny_pure ⟨rfl, by obtain ⟨hm, hI⟩ := h₅; exact ⟨_, hm, _, _, hI, rfl⟩⟩)) fun _ _ h' => h')) fun _ _ h' => h'))

/-- a list comprehension with two fors -/
theorem comp_core2 {elt t0 i0 t1 i1 : PySem.Expr} {f0 f1 : List PySem.Expr} {scope : Scope} {pos : Pos} {cl : List (Str × Addr)} {use : Option (Value → Sem Unit)} {Q : Value → Shared → Prop}
    (hs : ∀ x, foldedSetIterable i0 env x = pure x) (hs1 : ∀ env x, foldedSetIterable i1 env x = pure x) (hclos : closureFor scope env = pure cl) (hcell : (scope.names.all fun x => x.2 != .cell) = true) (hkind : scope.kind = .function)
    (hnames : (scope.names.all fun x => decide (x.2 = .local → scope.names.lookup x.1 = some .local)) = true)
    (hq : wpAny (model prog w) A (eval i0 env) (fun x s₁ => wpAny (model prog w) A (pyIter x) (fun it s₂ => ∃ (g h₂ : Heap) (tk₂ : Nat) (O N : List HD), s₂ = ⟨h₂, gs, dr, tk₂, os⟩ ∧ Led K g h₂ O N ∧ (∀ v, letOwnedTupleGo t0 it v = pure ()) ∧
      (∀ C D h₃ tk₃, Led K g h₃ O (nsD C [] :: (N ++ [plainD D []])) → (∀ (Q : Value → Shared → Prop) E', Q it ⟨h₃, gs, dr, tk₃, os⟩ → wpAny (model prog w) A (pyIter it) Q E' ⟨h₃, gs, dr, tk₃, os⟩) ∧
        ∃ (I : Nat → Heap → Prop) (n : Nat), I n h₃ ∧ 
        (∀ (E' : Value → Shared → Prop) n h tk, I n h → wpAny (model prog w) A (pyNext it) (fun r s₁ => match r with
          | none => UEnd (model prog w) A E use C D Q s₁
          | some v => wpAny (model prog w) A (assign t0 (compEnvC scope cl C env) v) (fun _ s₂ => wpAny (model prog w) A (forIn f0 true fun c r => if r = true then do let ok ← isTrue c (compEnvC scope cl C env) (eval c (compEnvC scope cl C env)); pure (ForInStep.yield ok) else pure (ForInStep.yield r)) (fun ok s₃ => if ok = true then
              wpAny (model prog w) A (eval i1 (compEnvC scope cl C env)) (fun x s₄ => wpAny (model prog w) A (pyIter x) (fun it1 s₅ => ∃ (J : Nat → Heap → Prop) (m : Nat) (h₅ : Heap) (tk₅ : Nat), s₅ = ⟨h₅, gs, dr, tk₅, os⟩ ∧ J m h₅ ∧ (∀ v, letOwnedTupleGo t1 it1 v = pure ()) ∧
                (∀ (Q : Value → Shared → Prop) E', Q it1 ⟨h₅, gs, dr, tk₅, os⟩ → wpAny (model prog w) A (pyIter it1) Q E' ⟨h₅, gs, dr, tk₅, os⟩) ∧
                (∀ (E'' : Value → Shared → Prop) m h tk, J m h → wpAny (model prog w) A (pyNext it1) (fun r s₁ => match r with
                  | none => Nx I n gs dr os s₁
                  | some v => wpAny (model prog w) A (assign t1 (compEnvC scope cl C env) v) (fun _ s₂ => wpAny (model prog w) A (forIn f1 true fun c r => if r = true then do let ok ← isTrue c (compEnvC scope cl C env) (eval c (compEnvC scope cl C env)); pure (ForInStep.yield ok) else pure (ForInStep.yield r)) (fun ok s₃ => if ok = true then wpAny (model prog w) A (eval elt (compEnvC scope cl C env)) (fun y s₄ =>
                      wpAny (model prog w) A (call (.builtin "list.append") [.ref D, y]) (fun _ s₅ => Nx J m gs dr os s₅) E'' s₄) E'' s₃ else Nx J m gs dr os s₃) E'' s₂) E'' s₁) E'' ⟨h, gs, dr, tk, os⟩)) E' s₄) E' s₃
              else Nx I n gs dr os s₃) E' s₂) E' s₁) E' ⟨h, gs, dr, tk, os⟩))) E s₁) E ⟨h, gs, dr, tk, os⟩) :
    wpAny (model prog w) A (comprehension (.ListComp elt [⟨t0, i0, f0, 0⟩, ⟨t1, i1, f1, 0⟩] scope pos) scope env (firstIterPos [⟨t0, i0, f0, 0⟩, ⟨t1, i1, f1, 0⟩] pos) (newList []) false (eval i0 env) use) Q E ⟨h, gs, dr, tk, os⟩ := by
  refine wpAny_comprehension_free (g := ⟨t0, i0, f0, 0⟩) (gs := [⟨t1, i1, f1, 0⟩]) rfl hs hclos hkind (fun x hx => of_decide_eq_true (List.all_eq_true.mp hnames x hx)) ?_
  refine wpAny_mono hq (fun x s₁ h₁ => wpAny_mono h₁ (fun it s₂ h₂ => ?_) fun _ _ e => e) fun _ _ e => e
  obtain ⟨g, h₂, tk₂, O, N, rfl, H2, ht, body⟩ := h₂
  refine wpAny_newObj_type ?_ (by size_fits)
  have H3 := H2.new (h' := h₂.push { cls := .type "list", dict := none, data := .seq ([] : List Value).toArray }) (d := plainD h₂.objs.size []) (push_e _) ⟨_, Heap.get?_push_size _ rfl⟩ (by intro a ha; cases List.mem_singleton.mp ha; exact none_size h₂) (by simp [plainD])
  dsimp only
  refine wpAny_newFunctionEnv (noCells hcell) (by intro y hy; simp at hy) (fun h₄ hns₄ hsb₄ => ?_) hkind
  have H4 := H3.new (h' := h₄) (d := nsD (h₂.push _).objs.size []) (fun b o e => hsb₄.extBut b o (Nat.ne_of_lt (Heap.lt_size e)) (Heap.get?_push_of_some _ e)) hns₄ (by intro a ha; cases List.mem_singleton.mp ha; exact none_size _) (by simp [nsD])
  have H5 := H4.perm (N' := nsD (h₂.push _).objs.size [] :: (N ++ [plainD h₂.objs.size []])) (List.perm_append_singleton _ _).symm
  obtain ⟨hself, I, n, h0, turn⟩ := body (h₂.push { cls := .type "list", dict := none, data := .seq ([] : List Value).toArray }).objs.size h₂.objs.size h₄ _ H5
  refine compStart_any (t := t0) (i := i0) (ifs := f0) rfl (fun Q E' q => hself Q E' q) ?_
  refine codeAny_loop rfl (fun n s => ∃ h tk, I n h ∧ s = ⟨h, gs, dr, tk, os⟩) ?_ n ⟨h₄, _, h0, rfl⟩
  rintro n s ⟨h, tk, hI, rfl⟩
  show wpAny _ _ ((compTurn (.ListComp elt [⟨t0, i0, f0, 0⟩, ⟨t1, i1, f1, 0⟩] scope pos) 0 it (.ref h₂.objs.size) _).onRaise (fun x => do noteFrame x _; theTreesLotGoes x)) _ _ _
  refine wpAny_noted ?_
  rw [compTurn_two0]
  refine wpAny_bind (wpAny_standAt (wpAny_bind (wpAny_mono (turn _ n h tk hI) (fun r s₁ h₁ => ?_) fun _ _ h' => h')))
  cases r with
  | none =>
    refine wpAny_pure ?_
    unfold UEnd at h₁
    cases use with
    | none => exact h₁
    | some u => exact h₁
  | some v =>
    refine wpAny_bind (wpAny_of_eq (ht v) ?_)
    refine wpAny_bind (wpAny_mono h₁ (fun _ s₂ h₂ => wpAny_bind (wpAny_mono h₂ (fun ok s₃ h₃ => ?_) fun _ _ h' => h')) fun _ _ h' => h')
    cases ok with
    | false =>
      obtain ⟨hm, hI⟩ : Nx I n gs dr os s₃ := h₃
      exact wpAny_pure ⟨rfl, _, hm, _, _, hI, rfl⟩
    | true =>
      refine wpAny_bind (wpAny_mono h₃ (fun x s₄ h₄ => wpAny_bind (wpAny_standAt (wpAny_bind (wpAny_of_eq (hs1 _ x) (wpAny_bind (wpAny_holding (wpAny_mono h₄ (fun it1 s₅ h₅ => ?_) fun _ _ h' => h'))))))) fun _ _ h' => h')
      obtain ⟨J, m, h₅, tk₅, rfl, hJ, ht1, hself1, turn1⟩ := h₅
      refine wpAny_bind (wpAny_runOwn (compStart_any (t := t1) (i := i1) (ifs := f1) rfl (fun Q E' q => hself1 Q E' q) ?_))
      refine codeAny_loop rfl (fun n s => ∃ h tk, J n h ∧ s = ⟨h, gs, dr, tk, os⟩) ?_ m ⟨h₅, tk₅, hJ, rfl⟩
      rintro m s ⟨h, tk, hJ, rfl⟩
      show wpAny _ _ ((compTurn (.ListComp elt [⟨t0, i0, f0, 0⟩, ⟨t1, i1, f1, 0⟩] scope pos) 1 it1 _ _).onRaise (fun x => do noteFrame x _; theTreesLotGoes x)) _ _ _
      refine wpAny_noted ?_
      rw [compTurn_two1]
      refine wpAny_bind (wpAny_standAt (wpAny_bind (wpAny_mono (turn1 _ m h tk hJ) (fun r s₁ h₁ => ?_) fun _ _ h' => h')))
      cases r with
      | none =>
        obtain ⟨hm, hI⟩ : Nx I n gs dr os s₁ := h₁
        exact wpAny_pure (wpAny_pure ⟨rfl, _, hm, _, _, hI, rfl⟩)
      | some v =>
        refine wpAny_bind (wpAny_of_eq (ht1 v) ?_)
        refine wpAny_bind (wpAny_mono h₁ (fun _ s₂ h₂ => wpAny_bind (wpAny_mono h₂ (fun ok s₃ h₃ => ?_) fun _ _ h' => h')) fun _ _ h' => h')
        cases ok with
        | false =>
          obtain ⟨hm, hI⟩ : Nx J m gs dr os s₃ := h₃
          exact wpAny_pure ⟨rfl, _, hm, _, _, hI, rfl⟩
        | true =>
          exact wpAny_bind (wpAny_bind (wpAny_mono h₃ (fun x s₄ h₄ => wpAny_bind (wpAny_mono h₄ (fun _ s₅ h₅ => wpAny_pure (wpAny_pure ⟨rfl, by obtain ⟨hm, hI⟩ := h₅; exact ⟨_, hm, _, _, hI, rfl⟩⟩)) fun _ _ h' => h')) fun _ _ h' => h'))
end
end Mine
end

section
open PySem PySem.W PySem.Calls PyProof.Rows
namespace Mine
/-- an iterator, by its places -/
structure Itr (prog : Program) (w : World) (A : Around) (K : Frag) (g : Heap) (gs : Array GenState) (dr : Drawn) (os : OsState) (it : Addr) (itD : Nat → HD) (n : Nat) (V : Nat → Value → Prop) (S : Heap → Prop) : Prop where
  fp : ∀ i, (itD i).fp = [it]
  next : ∀ {O N : List HD} {h : Heap} {tk i j : Nat} {Q : Option Value → Shared → Prop} {E : Value → Shared → Prop}, Led K g h O N → N[j]? = some (itD i) → S h → i < n →
    (∀ v h' tk', V i v → Led K g h' O (N.set j (itD (i + 1))) → Q (some v) ⟨h', gs, dr, tk', os⟩) → wpAny (model prog w) A (pyNext (.ref it)) Q E ⟨h, gs, dr, tk, os⟩
  stop : ∀ {O N : List HD} {h : Heap} {tk j : Nat} {Q : Option Value → Shared → Prop} {E : Value → Shared → Prop}, Led K g h O N → N[j]? = some (itD n) → S h →
    (∀ h' tk', Led K g h' O (N.eraseIdx j) → Q none ⟨h', gs, dr, tk', os⟩) → wpAny (model prog w) A (pyNext (.ref it)) Q E ⟨h, gs, dr, tk, os⟩
  self : ∀ {O N : List HD} {h : Heap} {tk i j : Nat} {Q : Value → Shared → Prop} {E : Value → Shared → Prop}, Led K g h O N → N[j]? = some (itD i) → Q (.ref it) ⟨h, gs, dr, tk, os⟩ → wpAny (model prog w) A (pyIter (.ref it)) Q E ⟨h, gs, dr, tk, os⟩

/-- a list's iterator -/
def liD (it l : Addr) (i : Nat) : HD where
  fp := [it]
  P h := h.IsListIter it l i
  st h h' e p := let ⟨o, ho, r⟩ := p; ⟨o, e it (.head _) _ ho, r⟩
  al h p b hb := by cases hb with | head => (obtain ⟨o, ho, _⟩ := p; exact ⟨o, ho⟩) | tail _ q => cases q
/-- a str's iterator -/
def siD (it : Addr) (x : Str) (t : Tok) (i : Nat) : HD where
  fp := [it]
  P h := h.IsStrIter it "str_ascii_iterator" x t i
  st h h' e p := let ⟨o, ho, r⟩ := p; ⟨o, e it (.head _) _ ho, r⟩
  al h p b hb := by cases hb with | head => (obtain ⟨o, ho, _⟩ := p; exact ⟨o, ho⟩) | tail _ q => cases q

section
variable {prog : Program} {w : World} {A : Around} {E : Value → Shared → Prop} {K : Frag} {g h : Heap} {O N : List HD} {gs : Array GenState} {dr : Drawn} {tk : Nat} {os : OsState} {env : Env}

theorem r_iterL {l : Addr} {items : Array Value} {Q : Value → Shared → Prop} (H : Led K g h O N) (hl : h.IsList l items)
    (q : ∀ it h' tk', Led K g h' O (N ++ [liD it l 0]) → Q (.ref it) ⟨h', gs, dr, tk', os⟩) : wpAny (model prog w) A (pyIter (.ref l)) Q E ⟨h, gs, dr, tk, os⟩ :=
  wpAny_pyIter_list hl (q _ _ _ (H.new (push_e _) ⟨_, Heap.get?_push_size _ rfl, rfl, rfl⟩ (by intro a ha; cases List.mem_singleton.mp ha; exact none_size h) (by simp [liD])))
theorem r_nextL {it l : Addr} {i j : Nat} {items : Array Value} {x : Value} {Q : Option Value → Shared → Prop} (H : Led K g h O N) (hj : N[j]? = some (liD it l i)) (hl : h.IsList l items) (hx : items[i]? = some x)
    (q : ∀ h' tk', Led K g h' O (N.set j (liD it l (i + 1))) → Q (some x) ⟨h', gs, dr, tk', os⟩) : wpAny (model prog w) A (pyNext (.ref it)) Q E ⟨h, gs, dr, tk, os⟩ :=
  wpAny_pyNext_list_item (H.at hj) hl hx (fun h' hi hs => q h' _ (H.mod hj rfl (sameBut_e hs) hi))
theorem r_nextL_end {it l : Addr} {i j : Nat} {items : Array Value} {Q : Option Value → Shared → Prop} (H : Led K g h O N) (hh : A.handled = none) (hj : N[j]? = some (liD it l i)) (hl : h.IsList l items) (hx : items[i]? = none)
    (q : ∀ h' tk', Led K g h' O (N.eraseIdx j) → Q none ⟨h', gs, dr, tk', os⟩) : wpAny (model prog w) A (pyNext (.ref it)) Q E ⟨h, gs, dr, tk, os⟩ :=
  wpAny_pyNext_list_end hh (H.at hj) hl hx (fun h' he => q h' _ (H.drop hj fun b o hb e => he b o (by simpa [liD] using hb) e))

theorem itr_list {it l : Addr} {items : List Value} (hh : A.handled = none) : Itr prog w A K g gs dr os it (fun i => liD it l i) items.length (fun i v => items[i]? = some v) (fun h => h.IsList l items.toArray) where
  fp _ := rfl
  next H hj hl hi q := r_nextL H hj hl (x := items[_]'hi) (by simp [hi]) (fun h' tk' H' => q _ h' tk' (List.getElem?_eq_getElem hi) H')
  stop H hj hl q := r_nextL_end H hh hj hl (by simp) q
  self H hj q := wpAny_pyIter_listiter (H.at hj) q
theorem itr_range {it : Addr} {a c : Int} {n : Nat} (hh : A.handled = none) : Itr prog w A K g gs dr os it (fun i => riD it (a + i * c) ((n : Int) - i) c) n (fun i v => ∃ t, v = .int (a + i * c) t) (fun _ => True) where
  fp _ := rfl
  next {O N h tk i j Q E} H hj _ hi q := r_nextR H hj (by omega) (fun t h' tk' H' => q _ h' tk' ⟨t, rfl⟩ (by
    rw [show a + ((i + 1 : Nat) : Int) * c = a + (i : Int) * c + c by rw [Int.natCast_add, Int.add_mul]; omega, show ((n : Int) - ((i + 1 : Nat) : Int)) = (n : Int) - i - 1 by omega]; exact H'))
  stop H hj _ q := r_nextR_end H hh hj (by omega) q
  self H hj q := wpAny_pyIter_rangeiter (H.at hj) q
theorem itr_str {it : Addr} {x : Str} {t : Tok} (hh : A.handled = none) : Itr prog w A K g gs dr os it (fun i => siD it x t i) x.cps.size (fun i v => ∃ c u, x.cps[i]? = some c ∧ v = .str ⟨#[c]⟩ u) (fun _ => True) where
  fp _ := rfl
  next {O N h tk i j Q E} H hj _ hi q := wpAny_pyNext_ascii_item (H.at hj) (Array.getElem?_eq_getElem hi) (fun h' hi' hs => q _ h' _ ⟨_, _, Array.getElem?_eq_getElem hi, rfl⟩ (H.mod hj rfl (sameBut_e hs) hi'))
  stop {O N h tk j Q E} H hj _ q := wpAny_pyNext_ascii_end hh (H.at hj) (by simp) (fun h' he => q h' _ (H.drop hj fun b o hb e => he b o (by simpa [siD] using hb) e))
  self H hj q := wpAny_pyIter_striter_ascii (H.at hj) q

theorem r_iterS {x : Str} {t : Tok} {Q : Value → Shared → Prop} (H : Led K g h O N) (ha : x.cps.all (· < 128) = true)
    (q : ∀ it h' tk', Led K g h' O (N ++ [siD it x t 0]) → Q (.ref it) ⟨h', gs, dr, tk', os⟩) : wpAny (model prog w) A (pyIter (.str x t)) Q E ⟨h, gs, dr, tk, os⟩ :=
  wpAny_pyIter_ascii ha (q _ _ _ (H.new (push_e _) ⟨_, Heap.get?_push_size _ rfl, rfl, rfl⟩ (by intro a ha; cases List.mem_singleton.mp ha; exact none_size h) (by simp [siD])))

theorem wpAny_tests_one' {env : Env} {c : PySem.Expr} {Q : Bool → Shared → Prop} {s : Shared} (h : wpAny (model prog w) A (isTrue c env (eval c env)) Q E s) :
    wpAny (model prog w) A (forIn [c] true fun c r => if r = true then do let ok ← isTrue c env (eval c env); pure (ForInStep.yield ok) else pure (ForInStep.yield r)) Q E s := wpAny_tests_one h

theorem mid_get {M : List HD} {a b c : HD} : (a :: (M ++ [b, c]))[M.length + 1]? = some b := by simp
theorem mid_set {M : List HD} {a b c d : HD} : (a :: (M ++ [b, c])).set (M.length + 1) d = a :: (M ++ [d, c]) := by simp
theorem mid_erase {M : List HD} {a b c : HD} : (a :: (M ++ [b, c])).eraseIdx (M.length + 1) = a :: (M ++ [c]) := by
  rw [List.eraseIdx_cons_succ, List.eraseIdx_append_of_length_le (Nat.le_refl _)]; simp
theorem last_get {M : List HD} {a b c : HD} : (a :: (M ++ [b, c]))[M.length + 2]? = some c := by simp
theorem last_set {M : List HD} {a b c d : HD} : (a :: (M ++ [b, c])).set (M.length + 2) d = a :: (M ++ [b, d]) := by simp

theorem range_succ_map {β : Type} (f : Nat → β) (i : Nat) : (List.range (i + 1)).map f = (List.range i).map f ++ [f i] := by rw [List.range_succ, List.map_append]; rfl
theorem range_succ_filterMap {β : Type} (f : Nat → Option β) (i : Nat) : (List.range (i + 1)).filterMap f = (List.range i).filterMap f ++ (f i).toList := by
  rw [List.range_succ, List.filterMap_append]; cases h : f i <;> simp [h]

/-- a comprehension of one for, no if, its element told by the turn's number -/
theorem comp_map {β : Type} {elt iter : PySem.Expr} {x : Str} {px : Pos} {scope : Scope} {pos : Pos} {cl : List (Str × Addr)} {use : Option (Value → Sem Unit)} {Q : Value → Shared → Prop}
    (n : Nat) (F : Value → β → Prop) (f : Nat → β) (OO : Nat → List HD) (N : List HD) (hn : n < 8000)
    (hs : ∀ x, foldedSetIterable iter env x = pure x) (hclos : closureFor scope env = pure cl) (hcell : (scope.names.all fun x => x.2 != .cell) = true) (hkind : scope.kind = .function)
    (hnames : (scope.names.all fun x => decide (x.2 = .local → scope.names.lookup x.1 = some .local)) = true) (hx : scope.names.lookup x = some .local)
    (hq : wpAny (model prog w) A (eval iter env) (fun xv s₁ => wpAny (model prog w) A (pyIter xv) (fun itv s₂ => ∃ (it : Addr) (itD : Nat → HD) (V : Nat → Value → Prop) (S : Heap → Prop) (h₂ : Heap) (tk₂ : Nat), itv = .ref it ∧ s₂ = ⟨h₂, gs, dr, tk₂, os⟩ ∧
      Itr prog w A K g gs dr os it itD n V S ∧ Led K g h₂ (OO 0) (N ++ [itD 0]) ∧ (∀ i a c h, Led K g h (OO i) (a :: (N ++ [itD i, c])) → S h) ∧
      (∀ (E' : Value → Shared → Prop) C D i lv acc v h tk, i < n → V i v → lv.lookup x = some v → acc.length = i → Led K g h (OO i) (nsD C lv :: (N ++ [itD (i + 1), plainD D acc])) →
        wpAny (model prog w) A (eval elt (compEnvC scope cl C env)) (fun y s => ∃ h' tk', s = ⟨h', gs, dr, tk', os⟩ ∧ F y (f i) ∧ Led K g h' (OO (i + 1)) (nsD C lv :: (N ++ [itD (i + 1), plainD D acc]))) E' ⟨h, gs, dr, tk, os⟩) ∧
      (∀ C D lv acc h' tk', Paired F acc ((List.range n).map f) → Led K g h' (OO n) (nsD C lv :: (N ++ [plainD D acc])) → UEnd (model prog w) A E use C D Q ⟨h', gs, dr, tk', os⟩)) E s₁) E ⟨h, gs, dr, tk, os⟩) :
    wpAny (model prog w) A (comprehension (.ListComp elt [⟨.Name x px, iter, [], 0⟩] scope pos) scope env (firstIterPos [⟨.Name x px, iter, [], 0⟩] pos) (newList []) false (eval iter env) use) Q E ⟨h, gs, dr, tk, os⟩ := by
  refine comp_core (K := K) hs hclos hcell hkind hnames (wpAny_mono hq (fun xv s₁ h₁ => wpAny_mono h₁ (fun itv s₂ h₂ => ?_) fun _ _ e => e) fun _ _ e => e)
  obtain ⟨it, itD, V, S, h₂, tk₂, rfl, rfl, W, H2, hS, turn, fin⟩ := h₂
  refine ⟨g, h₂, tk₂, OO 0, N ++ [itD 0], rfl, H2, by intro _; rfl, fun C D h₃ tk₃ H3 => ?_⟩
  have e0 : N ++ [itD 0] ++ [plainD D []] = N ++ [itD 0, plainD D []] := by simp
  rw [e0] at H3
  refine ⟨fun Q E' q => W.self (j := N.length + 1) H3 mid_get q, fun m h' => ∃ i lv acc, m = n - i ∧ i ≤ n ∧ acc.length = i ∧ Paired F acc ((List.range i).map f) ∧ Led K g h' (OO i) (nsD C lv :: (N ++ [itD i, plainD D acc])), n, ⟨0, [], [], by omega, by omega, rfl, .nil, H3⟩, ?_⟩
  rintro E' m h tk ⟨i, lv, acc, rfl, hi, hacc, hp, H⟩
  by_cases hlt : i < n
  · refine W.next (j := N.length + 1) H mid_get (hS _ _ _ _ H) hlt (fun v h' tk' hv H' => ?_)
    rw [mid_set] at H'
    refine wpAny_assign_Name (r_sto (L := C) (lv := lv) H' (by rfl) (by rfl) (by show (relabel scope env).kind = _; simp [relabel, hkind]) (lookup_relabel_local hx) (fun h'' tk'' H'' => ?_))
    simp only [List.set_cons_zero] at H''
    refine wpAny_tests_nil ?_
    rw [if_pos rfl]
    refine wpAny_mono (turn E' C D i _ acc v h'' tk'' hlt hv (by simp) hacc H'') (fun y s hy => ?_) fun _ _ e => e
    obtain ⟨h3, tk3, rfl, hF, H4⟩ := hy
    have hpl : h3.PlainList D acc.toArray := H4.at (j := N.length + 2) (d := plainD D acc) last_get
    refine wpAny_list_append_plain hpl (fun h4 hp4 hs4 => ?_) (by simp [sizeLine]; omega)
    have H5 := H4.mod (j := N.length + 2) (d' := plainD D (acc ++ [y])) last_get rfl (sameBut_e hs4) (by simpa [plainD] using hp4)
    rw [last_set] at H5
    exact Nx.mk (m := n - (i + 1)) (by omega) ⟨i + 1, _, acc ++ [y], rfl, by omega, by simp [hacc], by rw [range_succ_map]; exact Paired.app hp (.cons hF .nil), H5⟩
  · have hin : i = n := by omega
    subst hin
    refine W.stop (j := N.length + 1) H mid_get (hS _ _ _ _ H) (fun h' tk' H' => ?_)
    rw [mid_erase] at H'
    exact fin C D lv acc h' tk' hp H'

/-- a comprehension of one for and one if -/
theorem comp_filter {β : Type} {elt iter test : PySem.Expr} {x : Str} {px : Pos} {scope : Scope} {pos : Pos} {cl : List (Str × Addr)} {use : Option (Value → Sem Unit)} {Q : Value → Shared → Prop}
    (n : Nat) (F : Value → β → Prop) (f : Nat → Option β) (OO : Nat → List HD) (N : List HD) (hn : n < 8000)
    (hs : ∀ x, foldedSetIterable iter env x = pure x) (hclos : closureFor scope env = pure cl) (hcell : (scope.names.all fun x => x.2 != .cell) = true) (hkind : scope.kind = .function)
    (hnames : (scope.names.all fun x => decide (x.2 = .local → scope.names.lookup x.1 = some .local)) = true) (hx : scope.names.lookup x = some .local)
    (hq : wpAny (model prog w) A (eval iter env) (fun xv s₁ => wpAny (model prog w) A (pyIter xv) (fun itv s₂ => ∃ (it : Addr) (itD : Nat → HD) (V : Nat → Value → Prop) (S : Heap → Prop) (h₂ : Heap) (tk₂ : Nat), itv = .ref it ∧ s₂ = ⟨h₂, gs, dr, tk₂, os⟩ ∧
      Itr prog w A K g gs dr os it itD n V S ∧ Led K g h₂ (OO 0) (N ++ [itD 0]) ∧ (∀ i a c h, Led K g h (OO i) (a :: (N ++ [itD i, c])) → S h) ∧
      (∀ (E' : Value → Shared → Prop) C D i lv acc v h tk, i < n → V i v → lv.lookup x = some v → acc.length ≤ i → Led K g h (OO i) (nsD C lv :: (N ++ [itD (i + 1), plainD D acc])) →
        wpAny (model prog w) A (isTrue test (compEnvC scope cl C env) (eval test (compEnvC scope cl C env))) (fun b s => ∃ h' tk', s = ⟨h', gs, dr, tk', os⟩ ∧ b = (f i).isSome ∧ Led K g h' (OO (i + 1)) (nsD C lv :: (N ++ [itD (i + 1), plainD D acc]))) E' ⟨h, gs, dr, tk, os⟩) ∧
      (∀ (E' : Value → Shared → Prop) C D i lv acc v h tk z, i < n → V i v → f i = some z → lv.lookup x = some v → acc.length ≤ i → Led K g h (OO (i + 1)) (nsD C lv :: (N ++ [itD (i + 1), plainD D acc])) →
        wpAny (model prog w) A (eval elt (compEnvC scope cl C env)) (fun y s => ∃ h' tk', s = ⟨h', gs, dr, tk', os⟩ ∧ F y z ∧ Led K g h' (OO (i + 1)) (nsD C lv :: (N ++ [itD (i + 1), plainD D acc]))) E' ⟨h, gs, dr, tk, os⟩) ∧
      (∀ C D lv acc h' tk', Paired F acc ((List.range n).filterMap f) → Led K g h' (OO n) (nsD C lv :: (N ++ [plainD D acc])) → UEnd (model prog w) A E use C D Q ⟨h', gs, dr, tk', os⟩)) E s₁) E ⟨h, gs, dr, tk, os⟩) :
    wpAny (model prog w) A (comprehension (.ListComp elt [⟨.Name x px, iter, [test], 0⟩] scope pos) scope env (firstIterPos [⟨.Name x px, iter, [test], 0⟩] pos) (newList []) false (eval iter env) use) Q E ⟨h, gs, dr, tk, os⟩ := by
  refine comp_core (K := K) hs hclos hcell hkind hnames (wpAny_mono hq (fun xv s₁ h₁ => wpAny_mono h₁ (fun itv s₂ h₂ => ?_) fun _ _ e => e) fun _ _ e => e)
  obtain ⟨it, itD, V, S, h₂, tk₂, rfl, rfl, W, H2, hS, tst, turn, fin⟩ := h₂
  refine ⟨g, h₂, tk₂, OO 0, N ++ [itD 0], rfl, H2, by intro _; rfl, fun C D h₃ tk₃ H3 => ?_⟩
  have e0 : N ++ [itD 0] ++ [plainD D []] = N ++ [itD 0, plainD D []] := by simp
  rw [e0] at H3
  refine ⟨fun Q E' q => W.self (j := N.length + 1) H3 mid_get q, fun m h' => ∃ i lv acc, m = n - i ∧ i ≤ n ∧ acc.length ≤ i ∧ Paired F acc ((List.range i).filterMap f) ∧ Led K g h' (OO i) (nsD C lv :: (N ++ [itD i, plainD D acc])), n, ⟨0, [], [], by omega, by omega, Nat.le_refl _, .nil, H3⟩, ?_⟩
  rintro E' m h tk ⟨i, lv, acc, rfl, hi, hacc, hp, H⟩
  by_cases hlt : i < n
  · refine W.next (j := N.length + 1) H mid_get (hS _ _ _ _ H) hlt (fun v h' tk' hv H' => ?_)
    rw [mid_set] at H'
    refine wpAny_assign_Name (r_sto (L := C) (lv := lv) H' (by rfl) (by rfl) (by show (relabel scope env).kind = _; simp [relabel, hkind]) (lookup_relabel_local hx) (fun h'' tk'' H'' => ?_))
    simp only [List.set_cons_zero] at H''
    refine wpAny_tests_one' ?_
    refine wpAny_mono (tst E' C D i _ acc v h'' tk'' hlt hv (by simp) hacc H'') (fun b s hb => ?_) fun _ _ e => e
    obtain ⟨h3, tk3, rfl, rfl, H3⟩ := hb
    cases hf : f i with
    | none =>
      rw [if_neg (by simp)]
      exact Nx.mk (m := n - (i + 1)) (by omega) ⟨i + 1, _, acc, rfl, by omega, by omega, by rw [range_succ_filterMap, hf]; simpa using hp, H3⟩
    | some z =>
      rw [if_pos (by simp)]
      refine wpAny_mono (turn E' C D i _ acc v h3 tk3 z hlt hv hf (by simp) hacc H3) (fun y s hy => ?_) fun _ _ e => e
      obtain ⟨h3, tk3, rfl, hF, H4⟩ := hy
      have hpl : h3.PlainList D acc.toArray := H4.at (j := N.length + 2) (d := plainD D acc) last_get
      refine wpAny_list_append_plain hpl (fun h4 hp4 hs4 => ?_) (by simp [sizeLine]; omega)
      have H5 := H4.mod (j := N.length + 2) (d' := plainD D (acc ++ [y])) last_get rfl (sameBut_e hs4) (by simpa [plainD] using hp4)
      rw [last_set] at H5
      exact Nx.mk (m := n - (i + 1)) (by omega) ⟨i + 1, _, acc ++ [y], rfl, by omega, by simp; omega, by rw [range_succ_filterMap, hf]; exact Paired.app hp (.cons hF .nil), H5⟩
  · have hin : i = n := by omega
    subst hin
    refine W.stop (j := N.length + 1) H mid_get (hS _ _ _ _ H) (fun h' tk' H' => ?_)
    rw [mid_erase] at H'
    exact fin C D lv acc h' tk' hp H'

/-- the end of a comprehension that is evaluated -/
theorem uend_none {M : Model} {C D : Addr} {lv : List (Str × Value)} {d : HD} {Q : Value → Shared → Prop} (H : Led K g h O (nsD C lv :: (N ++ [d]))) (q : ∀ h', Led K g h' O (N ++ [d]) → Q (.ref D) ⟨h', gs, dr, tk, os⟩) : UEnd M A E none C D Q ⟨h, gs, dr, tk, os⟩ :=
  CEnd.mk (j := 0) H rfl q
/-- the end of a comprehension that is assigned to a local name -/
theorem uend_sto {C D L : Addr} {y : Str} {py : Pos} {lv lv0 : List (Str × Value)} {d : HD} {Q : Value → Shared → Prop} (H : Led K g h O (nsD C lv :: (nsD L lv0 :: N ++ [d]))) (hL : env.locals = L) (hk : env.scope.kind = .function) (hl : env.kindOf y = some .local)
    (q : ∀ h' tk', Led K g h' O (nsD L ((y, .ref D) :: lv0) :: N ++ [d]) → Q .none ⟨h', gs, dr, tk', os⟩) : UEnd (model prog w) A E (some (assign (.Name y py) env)) C D Q ⟨h, gs, dr, tk, os⟩ := by
  have H' := H.perm (N' := nsD L lv0 :: nsD C lv :: (N ++ [d])) (List.Perm.swap _ _ _)
  refine wpAny_assign_Name (r_sto H' (by rfl) hL hk hl (fun h' tk' H'' => ?_))
  simp only [List.set_cons_zero] at H''
  exact ⟨_, H''.at (j := 1) rfl, fun h3 hs3 => q h3 _ (H''.drop (j := 1) rfl fun b o hb e => hs3.extBut b o (by simpa [nsD] using hb) e)⟩

theorem eval_LC {elt : PySem.Expr} {gens : List Comprehension} {scope : Scope} {pos : Pos} {Q : Value → Shared → Prop} {s : Shared} {g0 : Comprehension} {gr : List Comprehension} (hg : gens = g0 :: gr) (ha : g0.is_async = 0)
    (hq : wpAny (model prog w) A (comprehension (.ListComp elt gens scope pos) scope env (firstIterPos gens pos) (newList []) false (eval g0.iter env) none) Q E s) :
    wpAny (model prog w) A (eval (.ListComp elt gens scope pos) env) Q E s := by
  subst hg
  rw [eval_ListComp]
  obtain ⟨t, i, f, a⟩ := g0
  cases ha
  exact hq
theorem exec_LC {elt : PySem.Expr} {gens : List Comprehension} {scope : Scope} {pos spos py : Pos} {y : Str} {Q : Flow → Shared → Prop} {s : Shared} {g0 : Comprehension} {gr : List Comprehension} (hg : gens = g0 :: gr) (ha : g0.is_async = 0)
    (hsw : swapsWith (.ListComp elt gens scope pos) (some (.Name y py)) spos.line env = pure true)
    (hq : wpAny (model prog w) A (comprehension (.ListComp elt gens scope pos) scope env (firstIterPos gens pos) (newList []) false (eval g0.iter env) (some (assign (.Name y py) env))) (fun _ s' => Q .next s') E s) :
    wpAny (model prog w) A (exec (.Assign [.Name y py] (.ListComp elt gens scope pos) spos) env) Q E s := by
  subst hg
  obtain ⟨t, i, f, a⟩ := g0
  cases ha
  rw [exec_Assign_Name_used _ _ _ _ hsw]
  refine wpAny_bind (wpAny_standAt (wpAny_bind ?_))
  show wpAny _ A (do let _ ← comprehension (.ListComp elt (⟨t, i, f, 0⟩ :: gr) scope pos) scope env _ (newList []) false (eval i env) (some (assign (.Name y py) env))) _ _ s
  refine wpAny_bind (wpAny_mono hq (fun _ s' hq => wpAny_pure (wpAny_pure hq)) fun _ _ e => e)
end
end Mine
namespace Mine
section
variable {prog : Program} {w : World} {A : Around} {E : Value → Shared → Prop} {K : Frag} {g h : Heap} {O N : List HD} {gs : Array GenState} {dr : Drawn} {tk : Nat} {os : OsState} {env : Env}
/-- the range's iterator, the range let go -/
theorem r_itR {r : Addr} {a b c : Int} {n : Nat} {Q : Value → Shared → Prop} (H : Led K g h O (N ++ [rangeD r a b c])) (hs : Builtin.Range.small a b c = true) (hn : Builtin.Range.rangeSize a b c = n)
    (q : ∀ i h' tk', Led K g h' O (N ++ [riD i (a + ((0 : Nat) : Int) * c) ((n : Int) - ((0 : Nat) : Int)) c]) → Q (.ref i) ⟨h', gs, dr, tk', os⟩) : wpAny (model prog w) A (pyIter (.ref r)) Q E ⟨h, gs, dr, tk, os⟩ := by
  refine r_iterR (j := N.length) H (by simp) hs (fun i h' tk' H' => q i h' tk' ?_)
  rw [hn] at H'
  rw [show a + ((0 : Nat) : Int) * c = a by simp, show (n : Int) - ((0 : Nat) : Int) = n by simp]
  exact H'.sub (by simp)
/-- sum of a list of ints -/
theorem r_sum {l : Addr} {vs : List Value} {xs : List Int} {Q : Value → Shared → Prop} (H : Led K g h O N) (hA : A.handled = none) (hl : h.IsList l vs.toArray) (hp : Paired IV vs xs)
    (q : ∀ t h' tk', Led K g h' O N → Q (.int xs.sum t) ⟨h', gs, dr, tk', os⟩) : wpAny (model prog w) A (call (.builtin "sum") [.ref l]) Q E ⟨h, gs, dr, tk, os⟩ := by
  have key : ∃ ys : List (Int × Tok), vs.toArray = intItems ys.toArray ∧ ys.map (·.1) = xs := by
    clear hl q
    induction hp with
    | nil => exact ⟨[], by simp [intItems], rfl⟩
    | cons hv t ih =>
      obtain ⟨ys, e1, e2⟩ := ih
      obtain ⟨u, rfl⟩ := hv
      refine ⟨(_, u) :: ys, ?_, by rw [List.map_cons, e2]⟩
      have e3 := congrArg Array.toList e1
      simp [intItems] at e3 ⊢
      exact e3
  obtain ⟨ys, e1, e2⟩ := key
  rw [e1] at hl
  refine sum_intListG hA hl fun h' tk' t' hk => ?_
  have e3 : preSum (numAt ys.toArray) ys.toArray.size = xs.sum := by
    rw [preSum_eq, List.take_of_length_le (by simp), ← e2]
  rw [e3]
  exact q _ _ _ (H.ext hk)
theorem r_min {a b : Int} {t u : Tok} {Q : Value → Shared → Prop} (H : Led K g h O N) (hA : A.handled = none)
    (q : ∀ t h' tk', Led K g h' O N → Q (.int (min a b) t) ⟨h', gs, dr, tk', os⟩) : wpAny (model prog w) A (call (.builtin "min") [.int a t, .int b u]) Q E ⟨h, gs, dr, tk, os⟩ := by
  refine min_two_ints hA fun h' tk' hk => ?_
  by_cases hb : b < a
  · rw [if_pos hb, show b = min a b by omega]; exact q _ _ _ (H.ext hk)
  · rw [if_neg hb]; conv => arg 1; rw [show a = min a b by omega]
    exact q _ _ _ (H.ext hk)
theorem r_fdiv {a b : Int} {t u : Tok} {Q : Value → Shared → Prop} (hb : 0 < b) (hb2 : b < 1073741824) (q : ∀ t tk', Q (.int (a / b) t) ⟨h, gs, dr, tk', os⟩) : wpAny (model prog w) A (binaryOp .FloorDiv (.int a t) (.int b u)) Q E ⟨h, gs, dr, tk, os⟩ :=
  floordiv_int (by omega) (by rw [Int.fdiv_eq_ediv_of_nonneg _ (by omega)]; exact q _ _) (.inl (PyProof.noPylong_small (by omega)))
end
end Mine
namespace Mine
section
variable {prog : Program} {w : World} {A : Around} {E : Value → Shared → Prop} {K : Frag} {g h : Heap} {O N : List HD} {gs : Array GenState} {dr : Drawn} {tk : Nat} {os : OsState} {env : Env}
theorem r_cellM {x : Str} {pos : Pos} {c : Addr} {v : Value} {Q : Value → Shared → Prop} (hl : env.kindOf x = some .cell) (hk : env.scope.kind = .function) (hc : env.cells.lookup x = some c) (H : Led K g h O N) (hv : cellD c (some v) ∈ N)
    (hd : (x == ("__debug__" : Str)) = false) (q : Q v ⟨h, gs, dr, tk, os⟩) : wpAny (model prog w) A (eval (.Name x pos) env) Q E ⟨h, gs, dr, tk, os⟩ :=
  wpAny_Name (wpAny_loadName_cell hk hl hc (H.all _ (List.mem_append_right _ hv)) q) hd
theorem Led.has {d : HD} (H : Led K g h O N) (hd : d ∈ N) : d.P h := H.all _ (List.mem_append_right _ hd)
end
end Mine
end

section
open PySem PySem.W PySem.Calls PyProof.Rows
namespace Mine
/-- re's overlap table, by plain lists -/
def ovIdx (p : List Str) (t : List Nat) (i : Nat) : Nat → Nat → Nat
  | 0, _ => 0
  | f + 1, k => if p[i]? = p[k]? then k + 1 else if k = 0 then 0 else ovIdx p t i f (t.getD (k - 1) 0)
def ovRun (p : List Str) : Nat → List Nat
  | 0 => List.replicate p.length 0
  | k + 1 => (ovRun p k).set (k + 1) (ovIdx p (ovRun p k) (k + 1) (k + 2) ((ovRun p k).getD k 0))
def ovT (p : List Str) : List Nat := ovRun p (p.length - 1)
theorem ovRun_len (p : List Str) (k : Nat) : (ovRun p k).length = p.length := by
  induction k with
  | zero => simp [ovRun]
  | succ k ih => simp [ovRun, ih]
theorem ovIdx_le (p : List Str) (t : List Nat) (i : Nat) (ht : ∀ m, t.getD m 0 ≤ m) : ∀ f k, ovIdx p t i f k ≤ k + 1
  | 0, k => Nat.zero_le _
  | f + 1, k => by
    unfold ovIdx
    split
    · exact Nat.le_refl _
    · split
      · exact Nat.zero_le _
      · have := ovIdx_le p t i ht f (t.getD (k - 1) 0)
        have := ht (k - 1)
        omega
theorem ovRun_le (p : List Str) (k : Nat) : ∀ m, (ovRun p k).getD m 0 ≤ m := by
  induction k with
  | zero =>
    intro m
    simp only [ovRun, List.getD_eq_getElem?_getD, List.getElem?_replicate]
    split <;> simp
  | succ k ih =>
    intro m
    simp only [ovRun, List.getD_eq_getElem?_getD, List.getElem?_set]
    split
    · rename_i e
      split
      · have h1 := ovIdx_le p (ovRun p k) (k + 1) ih (k + 2) ((ovRun p k).getD k 0)
        have h2 := ih k
        simp only [List.getD_eq_getElem?_getD, Option.getD_some] at *
        omega
      · simp
    · simpa [List.getD_eq_getElem?_getD] using ih m
def zs (t : List Nat) : List Int := t.map fun (n : Nat) => (n : Int)

local macro_rules | `(tactic| walk_at "eval Name") => `(tactic| (refine r_blt (by rfl) (by rfl) (by assumption) (by rfl) (by rfl) (by rfl) (by boot_by_name) (by decide) (by decide) ?_))
local macro_rules | `(tactic| walk_at "eval Name") => `(tactic| (refine r_glob (by rfl) (by rfl) (by assumption) (by rfl) (by rfl) (by decide) ?_))
local macro_rules | `(tactic| walk_at "eval Name") => `(tactic| (refine r_loc (by rfl) (by rfl) (by assumption) (by rfl) (by rfl) (by first | rfl | assumption) (by decide) ?_))
local macro_rules | `(tactic| walk_at "storeName") => `(tactic| (refine r_sto (by assumption) (by rfl) (by rfl) (by rfl) (by rfl) ?_; intro h' tk' H'; (try simp only [List.cons_append, List.nil_append, List.set_cons_zero, List.set_cons_succ] at H')))
local macro_rules | `(tactic| walk_at "newList") => `(tactic| (refine r_newList (by assumption) (by simp [sizeLine]) ?_; intro a' h' tk' H'; (try simp only [List.cons_append, List.nil_append, List.set_cons_zero, List.set_cons_succ] at H')))

local macro_rules | `(tactic| walk_at "eval Constant int") => `(tactic| (refine r_cint ?_; intro _ _))
local macro_rules | `(tactic| walk_at "eval Constant str") => `(tactic| (refine r_cstr ?_; intro _ _))
local macro_rules | `(tactic| walk_at "binaryOp Add int int") => `(tactic| (refine r_add ?_; intro _ _))
local macro_rules | `(tactic| walk_at "binaryOp Sub int int") => `(tactic| (refine r_sub ?_; intro _ _))

theorem zs_get {t : List Nat} {k : Nat} (hk : k < t.length) : (zs t)[k]? = some ((t.getD k 0 : Nat) : Int) := by
  simp [zs, List.getD_eq_getElem?_getD, List.getElem?_eq_getElem hk]
theorem zs_set (t : List Nat) (k r : Nat) : zs (t.set k r) = (zs t).set k (r : Int) := by
  simp [zs, List.map_set]
set_option maxRecDepth 100000 in
set_option maxHeartbeats 8000000 in
theorem ov_call {w : World} {A : Around} {h : Heap} {gs : Array GenState} {dr : Drawn} {tk : Nat} {os : OsState} {R : Result → Shared → Prop} {l : Addr} {vs : List Value} {xs : List Str}
    (X : Gd (hd01.heap_39 w.params) h) (hd : A.depth < 900) (hu : A.units < 1000) (hA : A.handled = none)
    (hl : h.IsList l vs.toArray) (hp : Paired SV vs xs) (hsz : xs.length < 1000)
    (k : ∀ h' tk' a, Led (hd01.heap_39 w.params) h h' [] [intsD a (zs (ovT xs))] → R (.ok (.ret (.ref a))) ⟨h', gs, dr, tk', os⟩) :
    codeAny (model PySem.Challenge.rw_qu0003_01.row.prog w) A (.call (.ref 63) ⟨[.ref l], []⟩) R ⟨h, gs, dr, tk, os⟩ := by
  have hlen := hp.length
  refine r_enter (lv := [(("prefix" : Str), .ref l)]) (Led.start X) (Nat.lt_of_lt_of_le hd (by decide)) rfl rfl rfl rfl rfl rfl rfl rfl rfl rfl ?_
  intro E' L h₁ tk₁ H
  repeat' walk1
  refine r_len (Led.blist (by assumption) hl) (by omega) ?_; intro _ _
  repeat' walk1
  refine r_mul (by assumption) (Led.at (j := 1) (by assumption) rfl) (by omega) (by omega) (by simp; omega) ?_; intro a1 h1 tk1 H1
  have H1 := (H1.sub (N' := [_, plainD a1 _]) (by exact .cons_cons _ (.cons _ (.cons_cons _ .slnil)))).conv (j := 1) (d' := intsD a1 (zs (ovRun xs 0))) rfl rfl (fun p => ⟨_, p.isList, by
    have e : ∀ v : Value, (List.replicate ((vs.length : Nat) : Int).toNat [v]).flatten = List.replicate vs.length v := fun v => by simp
    rw [e, hlen]; simp only [zs, ovRun, List.map_replicate]; exact Paired.rep ⟨_, rfl⟩ _⟩)
  simp only [List.set_cons_zero, List.set_cons_succ] at H1
  repeat' walk1
  refine r_for (by intro _; rfl) ?_
  repeat' walk1
  refine r_len (Led.blist (by assumption) hl) (by omega) ?_; intro _ _
  repeat' walk1
  refine r_range2 (by assumption) ?_; intro r2 h2 tk2 H2
  repeat' walk1
  refine r_iterR (j := 2) H2 (by rfl) (small_one (by omega) (by omega) (by omega) (by omega)) ?_; intro it h3 tk3 H3
  have H3 := H3.sub (N' := [_, _, riD it _ _ _]) (by exact .cons_cons _ (.cons_cons _ (.cons _ (.cons_cons _ .slnil))))
  refine ⟨fun n h' => ∃ j lv, n = xs.length - 1 - j + 1 ∧ j ≤ xs.length - 1 ∧ Led (hd01.heap_39 w.params) h h' [] [nsD L lv, intsD a1 (zs (ovRun xs j)), riD it ((j : Int) + 1) ((xs.length - 1 - j : Nat) : Int) 1] ∧ lv.lookup ("prefix" : Str) = some (.ref l) ∧ lv.lookup ("table" : Str) = some (.ref a1), xs.length - 1 + 1, _, _, rfl, ?_, by intro _; rfl, ?_⟩
  · have e : Builtin.Range.rangeSize 1 (vs.length : Int) 1 = ((xs.length - 1 - 0 : Nat) : Int) := by rw [rangeSize_one]; split <;> omega
    rw [e] at H3
    exact ⟨0, _, by omega, by omega, H3, rfl, rfl⟩
  intro E2 n h4 tk4 ⟨j, lv, hn, hj, H4, e1, e2⟩
  by_cases hlt : j < xs.length - 1
  · refine r_nextR (j := 2) H4 (by rfl) (by omega) ?_; intro t5 h5 tk5 H5
    simp only [List.set_cons_zero, List.set_cons_succ] at H5
    have hrl : (ovRun xs j).length = xs.length := ovRun_len xs j
    have hle := ovRun_le xs j
    have hjk := hle j
    repeat' walk1
    refine r_itemI (j := 1) (by assumption) (by rfl) (by omega) (by omega) (by rw [show ((j : Int) + 1 - 1).toNat = j by omega]; exact zs_get (by omega)) ?_ (by with_unfolding_all rfl); intro _
    repeat' walk1
    generalize hr : ovIdx xs (ovRun xs j) (j + 1) (j + 2) ((ovRun xs j).getD j 0) = r
    refine r_while (fun n h' => ∃ f lv2 ti tt, Led (hd01.heap_39 w.params) h h' [] [nsD L lv2, intsD a1 (zs (ovRun xs j)), riD it (j + 1 + 1) ((xs.length - 1 - j : Nat) - 1) 1] ∧ lv2.lookup ("prefix" : Str) = some (.ref l) ∧ lv2.lookup ("table" : Str) = some (.ref a1)
      ∧ lv2.lookup ("i" : Str) = some (.int (j + 1) ti) ∧ lv2.lookup ("idx" : Str) = some (.int n tt) ∧ n ≤ j ∧ n < f ∧ ovIdx xs (ovRun xs j) (j + 1) f n = r) ((ovRun xs j).getD j 0) ⟨j + 2, _, _, _, by assumption, by exact e1, by exact e2, by rfl, by rfl, by exact hjk, by omega, by exact hr⟩ ?_
    · intro E6 n6 h6 tk6 ⟨f6, lv6, ti6, tt6, H6, p1, p2, p3, p4, p5, p6, p7⟩
      obtain ⟨x1, hx1⟩ : ∃ x, xs[j + 1]? = some x := ⟨xs[j + 1], List.getElem?_eq_getElem (by omega)⟩
      obtain ⟨x2, hx2⟩ : ∃ x, xs[n6]? = some x := ⟨xs[n6], List.getElem?_eq_getElem (by omega)⟩
      obtain ⟨f7, rfl⟩ : ∃ f7, f6 = f7 + 1 := ⟨f6 - 1, by omega⟩
      repeat' walk1
      refine r_itemS (Led.blist H6 hl) hp (by omega) (by omega) (by rw [show ((j : Int) + 1).toNat = j + 1 by omega]; exact hx1) ?_ (by with_unfolding_all rfl); intro _
      repeat' walk1
      refine r_itemS (Led.blist H6 hl) hp (by omega) (by omega) (by rw [show ((n6 : Nat) : Int).toNat = n6 by omega]; exact hx2) ?_ (by with_unfolding_all rfl); intro _
      repeat' walk1
      · rename_i hne _ _ hz _ _
        have hne' : x1 ≠ x2 := by simpa using hne
        have hr0 : r = 0 := by rw [← p7]; unfold ovIdx; rw [hx1, hx2, if_neg (by simpa using hne'), if_pos (by omega)]
        refine r_setI (j := 1) H6 (by rfl) (by omega) (by omega) (by simp [zs, hrl]; omega) ?_; intro h8 tk8 H8
        repeat' walk1
        refine Nx.mk (m := xs.length - 1 - (j + 1) + 1) (by omega) ⟨j + 1, lv6, rfl, by omega, ?_, p1, p2⟩
        · have e8 : zs (ovRun xs (j + 1)) = (zs (ovRun xs j)).set ((j : Int) + 1).toNat 0 := by
            rw [ovRun, hr, hr0, zs_set, show ((j : Int) + 1).toNat = j + 1 by omega]; rfl
          rw [e8, show ((j + 1 : Nat) : Int) + 1 = (j : Int) + 1 + 1 by omega, show ((xs.length - 1 - (j + 1) : Nat) : Int) = ((xs.length - 1 - j : Nat) : Int) - 1 by omega]
          exact H8
      · rename_i hne _ _ hz _ _ _ _
        have hne' : x1 ≠ x2 := by simpa using hne
        have hn0 : n6 ≠ 0 := by simpa using hz
        refine r_itemI (j := 1) H6 (by rfl) (by omega) (by omega) (by rw [show ((n6 : Int) - 1).toNat = n6 - 1 by omega]; exact zs_get (by omega)) ?_ (by with_unfolding_all rfl); intro _
        repeat' walk1
        have hb := hle (n6 - 1)
        refine Nx.mk (m := (ovRun xs j).getD (n6 - 1) 0) (by omega) ⟨f7, _, _, _, by assumption, by exact p1, by exact p2, by exact p3, by rfl, ?_, ?_, ?_⟩
        · omega
        · omega
        · rw [← p7]; conv => rhs; unfold ovIdx
          rw [hx1, hx2, if_neg (by simpa using hne'), if_neg hn0]
      · rename_i hne _ _ _ _
        have hne' : x1 = x2 := by simpa using hne
        have hr0 : r = n6 + 1 := by rw [← p7]; unfold ovIdx; rw [hx1, hx2, if_pos (by rw [hne'])]
        refine r_setI (j := 1) H6 (by rfl) (by omega) (by omega) (by simp [zs, hrl]; omega) ?_; intro h8 tk8 H8
        repeat' walk1
        refine Nx.mk (m := xs.length - 1 - (j + 1) + 1) (by omega) ⟨j + 1, lv6, rfl, by omega, ?_, p1, p2⟩
        · have e8 : zs (ovRun xs (j + 1)) = (zs (ovRun xs j)).set ((j : Int) + 1).toNat ((n6 : Int) + 1) := by
            rw [ovRun, hr, hr0, zs_set, show ((j : Int) + 1).toNat = j + 1 by omega]; rfl
          rw [e8, show ((j + 1 : Nat) : Int) + 1 = (j : Int) + 1 + 1 by omega, show ((xs.length - 1 - (j + 1) : Nat) : Int) = ((xs.length - 1 - j : Nat) : Int) - 1 by omega]
          exact H8
  · refine r_nextR_end (j := 2) H4 hA (by rfl) (by omega) ?_; intro h5 tk5 H5
    simp only [List.eraseIdx] at H5
    repeat' walk1
    have ej : j = xs.length - 1 := by omega
    subst ej
    exact k _ _ _ (H5.sub (.cons _ (.cons_cons _ .slnil)))
end Mine
end

section
open PySem PySem.W PySem.Calls PyProof.Rows Builtin Builtin.ObjectAttr
namespace Mine
theorem fn_ga : typeLookup (.type "function") "__getattribute__" = pure (some (.builtin "object.__getattribute__")) := by rw [typeLookup_type, builtinLookup_eq_fast]; kernel_rfl
theorem fn_gattr : typeLookup (.type "function") "__getattr__" = pure none := by rw [typeLookup_type, builtinLookup_eq_fast]; kernel_rfl
theorem fn_read : typeLookup (.type "function") "read" = pure none := by rw [typeLookup_type, builtinLookup_eq_fast]; kernel_rfl

theorem slot_fn_ga : Slot "function" "__getattribute__" "object.__getattribute__" :=
  .of (owner := "object") (n := "__getattribute__") (by rw [typeLookup_type, builtinLookup_eq_fast]; kernel_rfl) (by decide +kernel) (by decide +kernel) (by decide +kernel)
    (by first | exact .inl (by decide +kernel) | exact .inr (by decide +kernel)) (by rw [isSubtype_type]; kernel_rfl)

section
variable {prog : Program} {w : World} {A : Around} {E : Value → Shared → Prop} {K : Frag} {g h : Heap} {O N : List HD} {gs : Array GenState} {dr : Drawn} {tk : Nat} {os : OsState}

/-- an attribute that stands in a function's own dict -/
theorem r_fattr {f fd : Addr} {of : Obj} {fda : FuncData} {es : List DictEntry} {n : Nat} {name : Str} {v : Value} {pl : Sem Bool} {Q : Value × List Value → Shared → Prop}
    (hf : h.get? f = some of) (hc : of.cls = .type "function") (hd : of.dict = some fd) (hdat : of.data = .func fda) (hfd : h.get? fd = some (dictOf es n)) (hr : typeLookup (.type "function") name = pure none)
    (hv : getL name es = some (some v)) (hh : handedIn v = true) (q : ∀ tk', Q (v, []) ⟨h, gs, dr, tk', os⟩) :
    wpAny (model prog w) A (getMethod (.ref f) name pl) Q E ⟨h, gs, dr, tk, os⟩ := by
  have hcan := PySem.F.canon_object_ga
  have T : ∀ {h' : Heap}, h'.get? f = some of → Looks (model prog w) h' (typeOf (.ref f)) (.type "function") := fun e => hc ▸ (Looks.ld e).andThen .now
  have T0 := T hf
  have own : Looks (model prog w) h (ownDict f) (some fd) := by
    refine (Looks.ld hf).andThen ?_
    rw [hdat]
    refine (Looks.ld hf).andThen ?_
    rw [hc, hd]
    exact .now
  have ind : Looks (model prog w) h (inOwnDict name (.ref f)) (some v) := by
    refine own.andThen ?_
    refine (Looks.ld hfd).andThen (Looks.of_pure (nsLook_of ?_))
    rw [lookIn_dict, hv]
  have fnd : Looks (model prog w) h (find (.ref f) (.type "function") name) (.value v) :=
    (Looks.of_pure hr).andThen (Looks.now.andThen (Looks.now.andThen (ind.andThen (Looks.tag .now))))
  unfold getMethod specialOf
  refine wpAny_bind (wpAny_bind (T0.here ((Looks.of_pure fn_ga).here ?_)))
  dsimp only
  rw [hcan, if_neg (by decide)]
  refine wpAny_bind (wpAny_bind (T0.here ((Looks.of_pure fn_gattr).here ?_)))
  refine wpAny_bind (wpAny_bind (T0.here ((Looks.of_pure hr).here ?_)))
  refine wpAny_bind ?_
  unfold getAttr getAttrBy
  refine wpAny_bind (wpAny_mkText (wpAny_holding (wpAny_bind (T0.at (wpAny_bind ((Looks.of_pure fn_ga).at ?_))))))
  show wpAny _ _ (getAttrByItsOwn (.ref f) (.str name tk) (.type "function") (.builtin "object.__getattribute__") true false) _ _ _
  unfold getAttrByItsOwn hookBefore callGetattribute boundAndCalled
  refine wpAny_bind (wpAny_of_eq (show (if onTheHeap (.type "function") then typeLookup (.type "function") "__getattr__" else pure none) = pure none from rfl) ?_)
  refine wpAny_bind (wpAny_attempt (wpAny_holding ?_))
  show wpAny _ _ (bindSpecial (.builtin "object.__getattribute__") (.ref f) >>= _) _ _ _
  refine wpAny_bind (wpAny_of_eq (slot_fn_ga.bind _) ?_)
  refine wpAny_mono (Q := fun v' s' => v' = v ∧ s' = ⟨h, gs, dr, tk + 1, os⟩) (E := fun _ _ => False)
    (wpAny_call_entry slot_fn_ga ⟨_, hf, hc⟩ PySem.F.entry_object_getattribute ?_ (PySem.F.args_object_getattribute_2 _ _)) (fun v' s' hv' => ?_) fun _ _ z => z.elim
  · unfold Builtin.«object.__getattribute__»
    refine wpAny_bind (wpAny_pure ?_)
    refine wpAny_bind (wpAny_pure (wpAny_bind (T0.at (wpAny_bind (fnd.at ?_)))))
    exact wpAny_pure ⟨_, rfl, rfl, rfl⟩
  · obtain ⟨rfl, rfl⟩ := hv'
    show wpAny _ _ (handedOut v') _ _ _
    rw [handedOut_of hh]
    exact wpAny_pure (wpAny_pure (q _))
end
end Mine
namespace Mine
section
variable {prog : Program} {w : World} {A : Around} {E : Value → Shared → Prop} {K : Frag} {g h : Heap} {O N : List HD} {gs : Array GenState} {dr : Drawn} {tk : Nat} {os : OsState} {env : Env}

theorem plain_upd {h : Heap} {l : Addr} {xs : Array Value} (hl : h.PlainList l xs) (f : Array Value → Array Value) : (h.update l (Obj.mapSeq f)).PlainList l (f xs) := by
  obtain ⟨n, hl⟩ := hl
  exact ⟨_, IsL.update hl f⟩

theorem w_pop {l : Addr} {vs : List Value} {v : Value} {pos : Pos} {Q : Value → Shared → Prop} (hl : h.PlainList l (vs ++ [v]).toArray) (hsz : vs.length < 10000)
    (q : ∀ h', h'.PlainList l vs.toArray → Heap.SameBut l h h' → Q v ⟨h', gs, dr, tk, os⟩) : wpAny (model prog w) A (callWith pos (.builtin "list.pop") [.ref l] [] []) Q E ⟨h, gs, dr, tk, os⟩ := by
  have u := plain_upd hl (fun xs => xs.eraseIdxIfInBounds ((vs ++ [v]).toArray.size - 1))
  obtain ⟨n, hl⟩ := hl
  refine PySem.P.pop_list hl (y := v) (by simp) (q _ ?_ (Heap.SameBut.update ..)) (by simp [sizeLine]; omega)
  have e : (vs ++ [v]).toArray.eraseIdxIfInBounds ((vs ++ [v]).toArray.size - 1) = vs.toArray := by simp [Array.eraseIdxIfInBounds, List.eraseIdx_append_of_length_le]
  rw [e] at u; exact u

theorem w_pop0 {l : Addr} {vs : List Value} {v : Value} {pos : Pos} {x : Sem Value} {Q : Value → Shared → Prop}
    (hq : wpAny (model prog w) A x (fun z s₁ => ∃ u h₁ tk₁, z = .int 0 u ∧ s₁ = ⟨h₁, gs, dr, tk₁, os⟩ ∧ h₁.PlainList l (v :: vs).toArray ∧ vs.length < 10000 ∧ ∀ h', h'.PlainList l vs.toArray → Heap.SameBut l h₁ h' → Q v ⟨h', gs, dr, tk₁, os⟩) E ⟨h, gs, dr, tk, os⟩) :
    wpAny (model prog w) A (callWith pos (.builtin "list.pop") [.ref l] [(false, x)] []) Q E ⟨h, gs, dr, tk, os⟩ := by
  refine PySem.P.pop_at_list (wpAny_mono hq (fun z s₁ h₁ => ?_) fun _ _ e => e)
  obtain ⟨u, h₁, tk₁, rfl, rfl, hl, hsz, q⟩ := h₁
  have up := plain_upd hl (fun xs => xs.eraseIdxIfInBounds 0)
  have e : (v :: vs).toArray.eraseIdxIfInBounds 0 = vs.toArray := by simp [Array.eraseIdxIfInBounds]
  rw [e] at up
  obtain ⟨n, hl⟩ := hl
  exact ⟨_, n, 0, u, 0, v, by simp [sizeLine]; omega, rfl, hl, by decide, by simp [seqIndex?], by simp, q _ up (Heap.SameBut.update ..)⟩

theorem w_app {l : Addr} {vs : List Value} {v : Value} {Q : Value → Shared → Prop} (hl : h.PlainList l vs.toArray) (hsz : vs.length < 10000)
    (q : ∀ h', h'.PlainList l (vs ++ [v]).toArray → Heap.SameBut l h h' → Q .none ⟨h', gs, dr, tk, os⟩) : wpAny (model prog w) A (call (.builtin "list.append") [.ref l, v]) Q E ⟨h, gs, dr, tk, os⟩ :=
  wpAny_list_append_plain hl (fun h' hp hs => q h' (by simpa using hp) hs) (by simp [sizeLine]; omega)

/-- enter a lambda that reads cells of its maker -/
theorem r_enterE {R : Result → Shared → Prop} {f : Addr} {of : Obj} {fd : FuncData} {body : PySem.Expr} {args : List Value} {binds lv : List (Str × Value)}
    (H : Led K h h O []) (hroom : A.depth < recursionLimit) (ho : h.get? f = some of) (hdat : of.data = .func fd) (hcd : h.CodeRec fd.code fd.qualname) (hbody : fd.body = .expr body)
    (hbind : bindArgs fd ⟨args, []⟩ = pure binds) (hcell : (fd.scope.names.all fun x => x.2 != .cell) = true) (hloc : (binds.all fun x => decide (fd.scope.names.lookup x.1 = some .local)) = true)
    (hlv : binds.reverse = lv) (hco : fd.scope.isCoroutine = false) (hgen : fd.scope.isGenerator = false) (hk : fd.scope.kind = .function)
    (q : ∀ (E' : Value → Shared → Prop) L h₁ tk₁, Led K h h₁ O [nsD L lv] → wpAny (model prog w) (A.deeper (callEnv fd L f)) (eval body (callEnv fd L f)) (fun v s' => R (.ok (.ret v)) s') E' ⟨h₁, gs, dr, tk₁, os⟩) :
    codeAny (model prog w) A (.call (.ref f) ⟨args, []⟩) R ⟨h, gs, dr, tk, os⟩ := by
  refine kla_callFunE hroom ho hdat hco hgen hbody hcd ((BindsTo.of_eq hbind) _ _ _ _ ?_)
  refine wpAny_newFunctionEnv (noCells hcell) (locs hloc) (fun h₀ hns₀ hsb₀ => ⟨H.gd.nl.fresh _ hsb₀, kla_codeExpr ?_⟩) hk
  subst hlv
  exact q _ _ h₀ _ (H.new (fun b o e => hsb₀.extBut b o (Nat.ne_of_lt (Heap.lt_size e)) (Heap.get?_push_of_some _ e)) hns₀ (by intro a ha; cases List.mem_singleton.mp ha; exact none_size h) (by simp [nsD]))

theorem fn_keeps {M : Model} {f : Addr} (h : Heap) (X : ∃ of fd, h.get? f = some of ∧ of.data = .func fd) : ∃ k, (k = Keeper.frame ∨ k = Keeper.machine ∨ k = Keeper.boundFrame) ∧ Looks M h (keeperOf (.ref f)) k := by
  obtain ⟨of, fd, ho, hd⟩ := X
  refine ⟨.frame, .inl rfl, (Looks.ld (part := none) ho).andThen ?_⟩
  rw [hd]
  exact .now

/-- call a function that the run has made, with one argument -/
theorem r_callF {f : Addr} {pos : Pos} {first : List Value} {e : PySem.Expr} {Q : Value → Shared → Prop} {s : Shared}
    (hq : wpAny (model prog w) A (eval e env) (fun v s₁ => (∃ of fd, s₁.heap.get? f = some of ∧ of.data = .func fd) ∧ wpAny (model prog w) A (call (.ref f) (first ++ [v])) Q E s₁) E s)
    (he : starEach [e] env = [(false, eval e env)]) :
    wpAny (model prog w) A (callWith pos (.ref f) first (backTo pos (starEach [e] env)) []) Q E s := by
  rw [he]
  refine callWith_of (P := fun h => ∃ of fd, h.get? f = some of ∧ of.data = .func fd) rfl (fun h X => fn_keeps h X) (Calls.evalArgs_plain ?_)
  exact Calls.spliced_cons (wpAny_mono hq (fun v s₁ h₁ => Calls.spliced_nil h₁) fun _ _ x => x)
end
end Mine
namespace Mine
section
variable {prog : Program} {w : World} {A : Around} {E : Value → Shared → Prop} {h : Heap} {gs : Array GenState} {dr : Drawn} {tk : Nat} {os : OsState} {env : Env}
theorem r_free {x : Str} {pos : Pos} {c : Addr} {v : Value} {Q : Value → Shared → Prop} (hl : env.kindOf x = some .free) (hk : env.scope.kind = .function) (hc : env.cells.lookup x = some c) (hv : ∃ o, h.get? c = some o ∧ o.data = .cell (some v))
    (hd : (x == ("__debug__" : Str)) = false) (hn : (x == ("__classdict__" : Str)) = false) (q : Q v ⟨h, gs, dr, tk, os⟩) : wpAny (model prog w) A (eval (.Name x pos) env) Q E ⟨h, gs, dr, tk, os⟩ :=
  wpAny_Name (wpAny_loadName_free hk hl hc hv q hn) hd
theorem r_cell {x : Str} {pos : Pos} {c : Addr} {v : Value} {Q : Value → Shared → Prop} (hl : env.kindOf x = some .cell) (hk : env.scope.kind = .function) (hc : env.cells.lookup x = some c) (hv : ∃ o, h.get? c = some o ∧ o.data = .cell (some v))
    (hd : (x == ("__debug__" : Str)) = false) (q : Q v ⟨h, gs, dr, tk, os⟩) : wpAny (model prog w) A (eval (.Name x pos) env) Q E ⟨h, gs, dr, tk, os⟩ :=
  wpAny_Name (wpAny_loadName_cell hk hl hc hv q) hd
end
end Mine
namespace Mine
section
variable {K : Frag} {g h h' : Heap} {O N : List HD} {d d' : HD}
/-- the same thing, as a callee's old thing -/
theorem Led.calleeO (H : Led K g h O N) {j : Nat} (hj : O[j]? = some d) : Led K h h [d] [] := by
  have hm : d ∈ O ++ N := List.mem_append_left _ (List.mem_of_getElem? hj)
  refine Led.startO H.gd (fun x hx => by cases List.mem_singleton.mp hx; exact H.all d hm) ?_ (fun x hx a ha => by cases List.mem_singleton.mp hx; exact H.fr d hm a ha)
  have := H.nd
  simp only [List.flatMap_cons, List.flatMap_nil, List.append_nil]
  exact this.sublist (by simpa using fps_sub (List.singleton_sublist.mpr hm))
theorem Led.calleeN (H : Led K g h O N) {j : Nat} (hj : N[j]? = some d) : Led K h h [d] [] := by
  have hm : d ∈ O ++ N := List.mem_append_right _ (List.mem_of_getElem? hj)
  refine Led.startO H.gd (fun x hx => by cases List.mem_singleton.mp hx; exact H.all d hm) ?_ (fun x hx a ha => by cases List.mem_singleton.mp hx; exact H.fr d hm a ha)
  have := H.nd
  simp only [List.flatMap_cons, List.flatMap_nil, List.append_nil]
  exact this.sublist (by simpa using fps_sub (List.singleton_sublist.mpr hm))
/-- back from the callee -/
theorem Led.backO (H : Led K g h O N) {j : Nat} (hj : O[j]? = some d) (hfp : d'.fp = d.fp) (H' : Led K h h' [d'] []) : Led K g h' (O.set j d') N :=
  H.modO hj hfp (fun b o hb e => H'.keep b o e (by simpa [hfp] using hb)) (H'.atO (j := 0) rfl)
theorem Led.backN (H : Led K g h O N) {j : Nat} (hj : N[j]? = some d) (hfp : d'.fp = d.fp) (H' : Led K h h' [d'] []) : Led K g h' O (N.set j d') :=
  H.mod hj hfp (fun b o hb e => H'.keep b o e (by simpa [hfp] using hb)) (H'.atO (j := 0) rfl)
/-- back from a callee that left all as it was, and made something -/
theorem Led.backNew (H : Led K g h O N) {d : HD} (hn : d.fp.Nodup) (H' : Led K h h' [] [d]) : Led K g h' O (N ++ [d]) :=
  H.new (fun b o e => H'.keep b o e (by simp)) (H'.at (j := 0) rfl) (H'.nw d (by simp)) hn
theorem Led.back0 (H : Led K g h O N) (H' : Led K h h' [] []) : Led K g h' O N := H.ext (fun b o e => H'.keep b o e (by simp))
end
end Mine
namespace Mine
open Builtin Builtin.ObjectAttr in
/-- a store into the dict of an own object -/
theorem r_setattr {prog : Program} {w : World} {A : Around} {E : Value → Shared → Prop} {K : Frag} {h : Heap} {gs : Array GenState} {dr : Drawn} {tk : Nat} {os : OsState} {x dx C : Addr} {es : List DictEntry} {es' : Tok → List DictEntry} {n n' : Nat} {name : Str} {v : Value} {Q : Unit → Shared → Prop}
    (X : K.In h) (hx : h.get? x = some (instObj C dx)) (hd : h.get? dx = some (dictOf es n))
    (hs : findIn K (.ref C) "__setattr__" = some (some (.builtin "object.__setattr__"))) (hp : plainOver K C = true) (ht : takerIn K C name = some none) (hh : (clsIn K C).any (·.hasDict) = true)
    (hl : (getL name es).isSome = true) (hz : ∀ t, (es' t).length ≤ 1000) (e : ∀ t, (putL name (PyData.keyHash w.params name) (.str name t) v es, putN name es n) = (es' t, n'))
    (q : ∀ t h' tk', h'.get? dx = some (dictOf (es' t) n') → Heap.SameBut dx h h' → Q () ⟨h', gs, dr, tk', os⟩) :
    wpAny (model prog w) A (setAttr (.ref x) name v) Q E ⟨h, gs, dr, tk, os⟩ := by
  have I : InstAt h x (instObj C dx) C (some (dictOf es n)) := ⟨hx, rfl, rfl, hd⟩
  refine set_plain (s := ⟨h, gs, dr, tk, os⟩) X I hs ?_
  refine osa_open (s := ⟨h, gs, dr, tk + 1, os⟩) X I hp ht fun b => ?_
  obtain ⟨cd, hc, hd'⟩ := any_some hh
  obtain ⟨e1, e2⟩ := Prod.mk.inj (e (tk + 1))
  have pn : Obj.putName name (PyData.keyHash w.params name) (.str name (tk + 1)) v (dictOf es n) = dictOf (es' (tk + 1)) n' := by rw [putName_dict, e1, e2]
  have D' : (h.update dx (Obj.putName name (PyData.keyHash w.params name) (.str name (tk + 1)) v)).get? dx = some (dictOf (es' (tk + 1)) n') := by
    rw [← pn]; exact Heap.get?_update_self _ hd (by rw [pn]; rfl)
  refine wpAny_bind (wpAny_pure (wpAny_bind (wpAny_bind (wpAny_loadPart hx (wpAny_bind ((looks_clsIn X hc).here ?_))))))
  rw [hd']
  refine wpAny_pure (a := some dx) (wpAny_bind (wpAny_pure (wpAny_bind ?_)))
  unfold nsSet
  refine wpAny_bind (wpAny_bind (wpAny_askSetting (wpAny_pure (wpAny_bind (wpAny_mkText (wpAny_bind (wpAny_loadPart hd ?_)))))))
  have c : (!es.any (·.key.isStr name) && es.any (·.refKey)) = false := by
    unfold getL at hl
    split at hl
    · rename_i en he
      rw [List.any_eq_true.mpr ⟨en, List.mem_of_find?_eq_some he, List.find?_some he⟩]; rfl
    · split at hl
      · cases hl
      · rename_i z; rw [Bool.not_eq_true] at z; rw [z, Bool.and_false]
  dsimp only [dictOf]
  rw [aRefKeyMayBeTheName_at, List.any_toArray, List.any_toArray, c]
  refine wpAny_updatePart hd ?_
  refine wpAny_bind (wpAny_lookBehind D' (pastItsLine_dict (by have := hz (tk + 1); rw [List.size_toArray, sizeLine_eq]; omega)) ?_)
  exact wpAny_pure (q _ _ _ D' (Heap.SameBut.update ..))
end Mine
end

section
open PySem PySem.W PySem.Calls PyProof.Rows PySem.SeqAt
namespace Mine
/-- two values that compare by ==, in one state -/
def EqL (A : Around) (s : Shared) : List Value → List Value → List Bool → Prop
  | [], [], [] => True
  | v :: vs, u :: us, b :: bs => EqAt A.in1 s v u b ∧ EqL A s vs us bs
  | _, _, _ => False
theorem EqL.get {A : Around} {s : Shared} : ∀ {vs us : List Value} {bs : List Bool}, EqL A s vs us bs → vs.length = us.length ∧ vs.length = bs.length ∧ ∀ j (h1 : j < vs.length) (h2 : j < us.length), EqAt A.in1 s vs[j] us[j] (bs.getD j true)
  | [], [], [], _ => ⟨rfl, rfl, fun j h => absurd h (Nat.not_lt_zero _)⟩
  | v :: vs, u :: us, b :: bs, ⟨h, t⟩ => by
    obtain ⟨e1, e2, e3⟩ := EqL.get t
    refine ⟨by simp [e1], by simp [e2], fun j h1 h2 => ?_⟩
    cases j with
    | zero => simpa using h
    | succ j => simpa using e3 j (by simpa using h1) (by simpa using h2)
theorem all_range (bs : List Bool) : (List.range bs.length).all (fun j => bs.getD j true) = bs.all id := by
  induction bs with
  | nil => rfl
  | cons b bs ih =>
    rw [List.length_cons, List.range_succ_eq_map, List.all_cons, List.all_map, List.all_cons]
    congr 1

section
variable {prog : Program} {w : World} {A : Around} {E : Value → Shared → Prop} {s : Shared} {Q : Value → Shared → Prop}
theorem rc_eqL {l b : Addr} {vs us : List Value} {bs : List Bool} (hl : s.heap.IsList l vs.toArray) (hb : s.heap.IsList b us.toArray) (hu : A.units < cLine) (he : EqL A s vs us bs) : RcAt A s (.ref l) (.ref b) (bs.all id) := by
  obtain ⟨e1, e2, e3⟩ := he.get
  have := RcAt.lists (e := fun j => bs.getD j true) hl hb (by simpa using e1) hu (fun j h1 h2 => by simpa using e3 j (by simpa using h1) (by simpa using h2))
  rw [show vs.toArray.size = bs.length by simpa using e2, all_range] at this
  exact this
theorem rc_neL {l b : Addr} {vs us : List Value} {bs : List Bool} (hl : s.heap.IsList l vs.toArray) (hb : s.heap.IsList b us.toArray) (hu : A.units < cLine) (he : EqL A s vs us bs) : RcNeAt A s (.ref l) (.ref b) (!bs.all id) := by
  obtain ⟨e1, e2, e3⟩ := he.get
  have := RcNeAt.lists (e := fun j => bs.getD j true) hl hb (by simpa using e1) hu (fun j h1 h2 => by simpa using e3 j (by simpa using h1) (by simpa using h2))
  rw [show vs.toArray.size = bs.length by simpa using e2, all_range] at this
  exact this

theorem eqL_strs {vs us : List Value} {xs ys : List Str} (hx : Paired SV vs xs) (hy : Paired SV us ys) (hlen : xs.length = ys.length) : ∃ bs, EqL A s vs us bs ∧ bs.all id = decide (xs = ys) := by
  induction hx generalizing us ys with
  | nil =>
    cases hy with
    | nil => exact ⟨[], trivial, by simp⟩
    | cons _ _ => simp at hlen
  | cons hv t ih =>
    cases hy with
    | nil => simp at hlen
    | cons hv' t' =>
      obtain ⟨t1, rfl⟩ := hv
      obtain ⟨t2, rfl⟩ := hv'
      obtain ⟨bs, e, q⟩ := ih t' (by simpa using hlen)
      refine ⟨_ :: bs, ⟨EqAt.str_str _ _ _ _, e⟩, ?_⟩
      rw [List.all_cons, q]
      simp only [id]
      rw [Bool.eq_iff_iff]; simp
theorem eqL_ints {vs us : List Value} {xs ys : List Int} (hx : Paired IV vs xs) (hy : Paired IV us ys) (hlen : xs.length = ys.length) : ∃ bs, EqL A s vs us bs ∧ bs.all id = decide (xs = ys) := by
  induction hx generalizing us ys with
  | nil =>
    cases hy with
    | nil => exact ⟨[], trivial, by simp⟩
    | cons _ _ => simp at hlen
  | cons hv t ih =>
    cases hy with
    | nil => simp at hlen
    | cons hv' t' =>
      obtain ⟨t1, rfl⟩ := hv
      obtain ⟨t2, rfl⟩ := hv'
      obtain ⟨bs, e, q⟩ := ih t' (by simpa using hlen)
      refine ⟨_ :: bs, ⟨EqAt.int_int _ _ _ _, e⟩, ?_⟩
      rw [List.all_cons, q]
      simp only [id]
      rw [Bool.eq_iff_iff]; simp

theorem rc_strs {l b : Addr} {vs us : List Value} {xs ys : List Str} (hl : s.heap.IsList l vs.toArray) (hx : Paired SV vs xs) (hb : s.heap.IsList b us.toArray) (hy : Paired SV us ys) (hu : A.units < cLine) : RcAt A s (.ref l) (.ref b) (decide (xs = ys)) := by
  by_cases hlen : xs.length = ys.length
  · obtain ⟨bs, e, q⟩ := eqL_strs (A := A) (s := s) hx hy hlen
    rw [← q]; exact rc_eqL hl hb hu e
  · have : decide (xs = ys) = false := decide_eq_false fun e => hlen (by rw [e])
    rw [this]; exact RcAt.lists_lengths hl hb (by simp [hx.length, hy.length, hlen]) hu
theorem rcn_strs {l b : Addr} {vs us : List Value} {xs ys : List Str} (hl : s.heap.IsList l vs.toArray) (hx : Paired SV vs xs) (hb : s.heap.IsList b us.toArray) (hy : Paired SV us ys) (hu : A.units < cLine) : RcNeAt A s (.ref l) (.ref b) (!decide (xs = ys)) := by
  by_cases hlen : xs.length = ys.length
  · obtain ⟨bs, e, q⟩ := eqL_strs (A := A) (s := s) hx hy hlen
    rw [← q]; exact rc_neL hl hb hu e
  · have : decide (xs = ys) = false := decide_eq_false fun e => hlen (by rw [e])
    rw [this]; exact RcNeAt.lists_lengths hl hb (by simp [hx.length, hy.length, hlen]) hu
theorem rc_ints {l b : Addr} {vs us : List Value} {xs ys : List Int} (hl : s.heap.IsList l vs.toArray) (hx : Paired IV vs xs) (hb : s.heap.IsList b us.toArray) (hy : Paired IV us ys) (hu : A.units < cLine) : RcAt A s (.ref l) (.ref b) (decide (xs = ys)) := by
  by_cases hlen : xs.length = ys.length
  · obtain ⟨bs, e, q⟩ := eqL_ints (A := A) (s := s) hx hy hlen
    rw [← q]; exact rc_eqL hl hb hu e
  · have : decide (xs = ys) = false := decide_eq_false fun e => hlen (by rw [e])
    rw [this]; exact RcAt.lists_lengths hl hb (by simp [hx.length, hy.length, hlen]) hu
theorem r_eqSS {l b : Addr} {vs us : List Value} {xs ys : List Str} (hl : s.heap.IsList l vs.toArray) (hx : Paired SV vs xs) (hb : s.heap.IsList b us.toArray) (hy : Paired SV us ys) (hu : A.units < cLine) (q : Q (.bool (decide (xs = ys))) s) :
    wpAny (model prog w) A (compareOp .Eq (.ref l) (.ref b)) Q E s := rc_strs hl hx hb hy hu _ _ _ _ q
theorem r_neSS {l b : Addr} {vs us : List Value} {xs ys : List Str} (hl : s.heap.IsList l vs.toArray) (hx : Paired SV vs xs) (hb : s.heap.IsList b us.toArray) (hy : Paired SV us ys) (hu : A.units < cLine) (q : Q (.bool (!decide (xs = ys))) s) :
    wpAny (model prog w) A (compareOp .NotEq (.ref l) (.ref b)) Q E s := rcn_strs hl hx hb hy hu _ _ _ _ q
theorem r_eqII {l b : Addr} {vs us : List Value} {xs ys : List Int} (hl : s.heap.IsList l vs.toArray) (hx : Paired IV vs xs) (hb : s.heap.IsList b us.toArray) (hy : Paired IV us ys) (hu : A.units < cLine) (q : Q (.bool (decide (xs = ys))) s) :
    wpAny (model prog w) A (compareOp .Eq (.ref l) (.ref b)) Q E s := rc_ints hl hx hb hy hu _ _ _ _ q

/-- a method of a list -/
theorem r_lmeth {l : Addr} {vs : Array Value} {name : Str} {id : String} {pl : Sem Bool} {Q : Value × List Value → Shared → Prop} (hl : s.heap.PlainList l vs) (slot : Slot "list" name id)
    (hty : typeOf (.builtin id) = pure (.type "method_descriptor")) (q : Q (.builtin id, [.ref l]) s) : wpAny (model prog w) A (getMethod (.ref l) name pl) Q E s :=
  getMethod_list_of slot hty hl.isList (by obtain ⟨n, hl⟩ := hl; exact ⟨_, hl, rfl⟩) q
end
end Mine
end

section
open PySem PySem.W PySem.Calls PyProof.Rows
namespace Mine
noncomputable abbrev KK (w : World) : Frag := hd01.heap_39 w.params
abbrev PG : Program := PySem.Challenge.rw_qu0003_01.row.prog
/-- one sign -/
def chS (c : Nat) : Str := ⟨#[c]⟩
def hdS : List Nat → Str
  | [] => ""
  | c :: _ => chS c
def nls (cs : List Nat) : Int := ((cs.filter (· == 10)).length : Nat)

theorem nls_nil : nls [] = 0 := rfl
theorem nls_cons (c : Nat) (r : List Nat) : nls (c :: r) = (if c = 10 then 1 else 0) + nls r := by
  unfold nls
  rw [List.filter_cons]
  by_cases h : c = 10
  · simp [h]; omega
  · simp [h]
theorem chS_eq {c d : Nat} : chS c = chS d ↔ c = d := by
  constructor
  · intro h; have := congrArg Str.cps h; simpa [chS] using this
  · intro h; rw [h]
theorem chS_nl : (Str.ofString "\n") = chS 10 := by decide
theorem hdS_nl {rest : List Nat} : (hdS rest == Str.ofString "\n") = true → nls rest = nls rest.tail + 1 := by
  cases rest with
  | nil => intro h; exact absurd h (by decide)
  | cons c r =>
    intro h
    have h := eq_of_beq h
    rw [chS_nl] at h
    have : c = 10 := chS_eq.mp h
    rw [nls_cons, this, if_pos rfl, List.tail_cons]; omega
theorem hdS_not {rest : List Nat} : (hdS rest == Str.ofString "\n") = false → nls rest = nls rest.tail := by
  cases rest with
  | nil => intro _; rfl
  | cons c r =>
    intro h
    have : c ≠ 10 := fun e => by rw [e, show hdS (10 :: r) = Str.ofString "\n" from chS_nl.symm] at h; simp at h
    rw [nls_cons, if_neg this, List.tail_cons]; omega

/-- the lambda that reads a sign, as _law_lexer's text has it -/
noncomputable def lamAt (w : World) : Option (Arguments × PySem.Expr × Scope) := match (KK w).lookup 80 with
  | some ⟨_, _, .func fd, _⟩ => (match fd.body with
      | .stmts (_ :: _ :: _ :: .Assign _ (.Lambda a b s _) _ :: _) => some (a, b, s)
      | _ => none)
  | _ => none

structure LA where
  x : Addr
  dx : Addr
  st : Addr
  sd : Addr
  rd : Addr
  cc : Addr
  ce : Addr
  sg : Addr
  pb : Addr

def lexEs (w : World) (a : LA) (line : Int) (t1 t2 t3 t4 t5 t6 : Tok) : List DictEntry :=
  [⟨PyData.keyHash w.params "lineno", .str "lineno" t1, .int line t2⟩, ⟨PyData.keyHash w.params "instream", .str "instream" t3, .ref a.st⟩,
   ⟨PyData.keyHash w.params "whitespace", .str "whitespace" t4, .str "\n\t\u000d " t5⟩, ⟨PyData.keyHash w.params "pushback", .str "pushback" t6, .ref a.pb⟩]

structure LexP (w : World) (a : LA) (pbk : List Str) (rest : List Nat) (T : Int) (h : Heap) : Prop where
  x : h.get? a.x = some (instObj 52 a.dx)
  dx : ∃ t1 t2 t3 t4 t5 t6 n, h.get? a.dx = some (dictOf (lexEs w a (T - nls rest) t1 t2 t3 t4 t5 t6) n)
  st : ∃ fda, h.get? a.st = some { cls := .type "function", dict := some a.sd, data := .func fda }
  sd : ∃ t n, h.get? a.sd = some (dictOf [⟨PyData.keyHash w.params "read", .str "read" t, .ref a.rd⟩] n)
  rd : ∃ pm ctv o, h.get? a.rd = some o ∧ ∀ p b s, lamAt w = some (p, b, s) → o = kla_obj "<lambda>" "_law_lexer.<locals>.<lambda>" p b s [("signs", a.ce)] pm a.cc ctv
  cc : ∃ oc vs t, h.get? a.cc = some oc ∧ oc.data = .fields vs ∧ vs[1]? = some (.str "_law_lexer.<locals>.<lambda>" t)
  ce : ∃ o, h.get? a.ce = some o ∧ o.data = .cell (some (.ref a.sg))
  sg : ∃ vs : List Value, h.PlainList a.sg vs.toArray ∧ Paired SV vs (rest.reverse.map chS)
  pb : ∃ vs : List Value, h.PlainList a.pb vs.toArray ∧ Paired SV vs pbk

def lexD (w : World) (a : LA) (pbk : List Str) (rest : List Nat) (T : Int) : HD where
  fp := [a.x, a.dx, a.st, a.sd, a.rd, a.cc, a.ce, a.sg, a.pb]
  P h := LexP w a pbk rest T h
  st h h' e p := by
    have e' : ∀ b ∈ [a.x, a.dx, a.st, a.sd, a.rd, a.cc, a.ce, a.sg, a.pb], ∀ o, h.get? b = some o → h'.get? b = some o := e
    simp only [List.mem_cons, List.not_mem_nil, or_false, forall_eq_or_imp, forall_eq] at e'
    obtain ⟨e1, e2, e3, e4, e5, e6, e7, e8, e9⟩ := e'
    refine ⟨e1 _ p.x, ?_, ?_, ?_, ?_, ?_, ?_, ?_, ?_⟩
    · obtain ⟨t1, t2, t3, t4, t5, t6, n, q⟩ := p.dx; exact ⟨t1, t2, t3, t4, t5, t6, n, e2 _ q⟩
    · obtain ⟨f, q⟩ := p.st; exact ⟨f, e3 _ q⟩
    · obtain ⟨t, n, q⟩ := p.sd; exact ⟨t, n, e4 _ q⟩
    · obtain ⟨t, n, o, q, r⟩ := p.rd; exact ⟨t, n, o, e5 _ q, r⟩
    · obtain ⟨o, vs, t, q, r⟩ := p.cc; exact ⟨o, vs, t, e6 _ q, r⟩
    · obtain ⟨o, q, r⟩ := p.ce; exact ⟨o, e7 _ q, r⟩
    · obtain ⟨vs, q, r⟩ := p.sg; exact ⟨vs, q.at (e8), r⟩
    · obtain ⟨vs, q, r⟩ := p.pb; exact ⟨vs, q.at (e9), r⟩
  al h p b hb := by
    simp only [List.mem_cons, List.not_mem_nil, or_false] at hb
    rcases hb with rfl | rfl | rfl | rfl | rfl | rfl | rfl | rfl | rfl
    · exact ⟨_, p.x⟩
    · obtain ⟨_, _, _, _, _, _, _, q⟩ := p.dx; exact ⟨_, q⟩
    · obtain ⟨_, q⟩ := p.st; exact ⟨_, q⟩
    · obtain ⟨_, _, q⟩ := p.sd; exact ⟨_, q⟩
    · obtain ⟨_, _, _, q, _⟩ := p.rd; exact ⟨_, q⟩
    · obtain ⟨_, _, _, q, _⟩ := p.cc; exact ⟨_, q⟩
    · obtain ⟨_, q, _⟩ := p.ce; exact ⟨_, q⟩
    · obtain ⟨_, ⟨_, q⟩, _⟩ := p.sg; exact ⟨_, q⟩
    · obtain ⟨_, ⟨_, q⟩, _⟩ := p.pb; exact ⟨_, q⟩

local macro_rules | `(tactic| walk_at "eval Name") => `(tactic| (refine r_blt (by rfl) (by rfl) (by assumption) (by rfl) (by rfl) (by rfl) (by boot_by_name) (by decide) (by decide) ?_))
local macro_rules | `(tactic| walk_at "eval Name") => `(tactic| (refine r_glob (by rfl) (by rfl) (by assumption) (by rfl) (by rfl) (by decide) ?_))
local macro_rules | `(tactic| walk_at "eval Name") => `(tactic| (refine r_loc (by rfl) (by rfl) (by assumption) (by rfl) (by rfl) (by first | rfl | assumption) (by decide) ?_))
local macro_rules | `(tactic| walk_at "storeName") => `(tactic| (refine r_sto (by assumption) (by rfl) (by rfl) (by rfl) (by rfl) ?_; intro h' tk' H'; (try simp only [List.cons_append, List.nil_append, List.set_cons_zero, List.set_cons_succ] at H')))
local macro_rules | `(tactic| walk_at "newList") => `(tactic| (refine r_newList (by assumption) (by simp [sizeLine]) ?_; intro a' h' tk' H'; (try simp only [List.cons_append, List.nil_append, List.set_cons_zero, List.set_cons_succ] at H')))
local macro_rules | `(tactic| walk_at "eval Constant int") => `(tactic| (refine r_cint ?_; intro _ _))
local macro_rules | `(tactic| walk_at "eval Constant str") => `(tactic| (refine r_cstr ?_; intro _ _))
local macro_rules | `(tactic| walk_at "binaryOp Add int int") => `(tactic| (refine r_add ?_; intro _ _))
local macro_rules | `(tactic| walk_at "binaryOp Sub int int") => `(tactic| (refine r_sub ?_; intro _ _))

theorem LexP.setSg {w : World} {a : LA} {pbk : List Str} {rest rest' : List Nat} {T T' : Int} {h h' : Heap} (p : LexP w a pbk rest T h) (nd : [a.x, a.dx, a.st, a.sd, a.rd, a.cc, a.ce, a.sg, a.pb].Nodup)
    (e : ∀ b o, b ≠ a.sg → h.get? b = some o → h'.get? b = some o) (hT : T' - nls rest' = T - nls rest) (sg : ∃ vs : List Value, h'.PlainList a.sg vs.toArray ∧ Paired SV vs (rest'.reverse.map chS)) : LexP w a pbk rest' T' h' := by
  simp only [List.nodup_cons, List.mem_cons, List.not_mem_nil, or_false, not_or] at nd
  refine ⟨e _ _ (by first | (simp [nd]; done) | (refine Ne.symm ?_; simp [nd]; done)) p.x, ?_, ?_, ?_, ?_, ?_, ?_, sg, ?_⟩
  · obtain ⟨t1, t2, t3, t4, t5, t6, n, q⟩ := p.dx; rw [← hT] at q; exact ⟨t1, t2, t3, t4, t5, t6, n, e _ _ (by first | (simp [nd]; done) | (refine Ne.symm ?_; simp [nd]; done)) q⟩
  · obtain ⟨f, q⟩ := p.st; exact ⟨f, e _ _ (by first | (simp [nd]; done) | (refine Ne.symm ?_; simp [nd]; done)) q⟩
  · obtain ⟨t, n, q⟩ := p.sd; exact ⟨t, n, e _ _ (by first | (simp [nd]; done) | (refine Ne.symm ?_; simp [nd]; done)) q⟩
  · obtain ⟨t, n, o, q, r⟩ := p.rd; exact ⟨t, n, o, e _ _ (by first | (simp [nd]; done) | (refine Ne.symm ?_; simp [nd]; done)) q, r⟩
  · obtain ⟨o, vs, t, q, r⟩ := p.cc; exact ⟨o, vs, t, e _ _ (by first | (simp [nd]; done) | (refine Ne.symm ?_; simp [nd]; done)) q, r⟩
  · obtain ⟨o, q, r⟩ := p.ce; exact ⟨o, e _ _ (by first | (simp [nd]; done) | (refine Ne.symm ?_; simp [nd]; done)) q, r⟩
  · obtain ⟨vs, q, r⟩ := p.pb; exact ⟨vs, q.at (e _ · (by first | (simp [nd]; done) | (refine Ne.symm ?_; simp [nd]; done))), r⟩
theorem LexP.setPb {w : World} {a : LA} {pbk pbk' : List Str} {rest : List Nat} {T : Int} {h h' : Heap} (p : LexP w a pbk rest T h) (nd : [a.x, a.dx, a.st, a.sd, a.rd, a.cc, a.ce, a.sg, a.pb].Nodup)
    (e : ∀ b o, b ≠ a.pb → h.get? b = some o → h'.get? b = some o) (pb : ∃ vs : List Value, h'.PlainList a.pb vs.toArray ∧ Paired SV vs pbk') : LexP w a pbk' rest T h' := by
  simp only [List.nodup_cons, List.mem_cons, List.not_mem_nil, or_false, not_or] at nd
  refine ⟨e _ _ (by first | (simp [nd]; done) | (refine Ne.symm ?_; simp [nd]; done)) p.x, ?_, ?_, ?_, ?_, ?_, ?_, ?_, pb⟩
  · obtain ⟨t1, t2, t3, t4, t5, t6, n, q⟩ := p.dx; exact ⟨t1, t2, t3, t4, t5, t6, n, e _ _ (by first | (simp [nd]; done) | (refine Ne.symm ?_; simp [nd]; done)) q⟩
  · obtain ⟨f, q⟩ := p.st; exact ⟨f, e _ _ (by first | (simp [nd]; done) | (refine Ne.symm ?_; simp [nd]; done)) q⟩
  · obtain ⟨t, n, q⟩ := p.sd; exact ⟨t, n, e _ _ (by first | (simp [nd]; done) | (refine Ne.symm ?_; simp [nd]; done)) q⟩
  · obtain ⟨t, n, o, q, r⟩ := p.rd; exact ⟨t, n, o, e _ _ (by first | (simp [nd]; done) | (refine Ne.symm ?_; simp [nd]; done)) q, r⟩
  · obtain ⟨o, vs, t, q, r⟩ := p.cc; exact ⟨o, vs, t, e _ _ (by first | (simp [nd]; done) | (refine Ne.symm ?_; simp [nd]; done)) q, r⟩
  · obtain ⟨o, q, r⟩ := p.ce; exact ⟨o, e _ _ (by first | (simp [nd]; done) | (refine Ne.symm ?_; simp [nd]; done)) q, r⟩
  · obtain ⟨vs, q, r⟩ := p.sg; exact ⟨vs, q.at (e _ · (by first | (simp [nd]; done) | (refine Ne.symm ?_; simp [nd]; done))), r⟩
theorem LexP.setDx {w : World} {a : LA} {pbk : List Str} {rest : List Nat} {T T' : Int} {h h' : Heap} (p : LexP w a pbk rest T h) (nd : [a.x, a.dx, a.st, a.sd, a.rd, a.cc, a.ce, a.sg, a.pb].Nodup)
    (e : ∀ b o, b ≠ a.dx → h.get? b = some o → h'.get? b = some o) (dx : ∃ t1 t2 t3 t4 t5 t6 n, h'.get? a.dx = some (dictOf (lexEs w a (T' - nls rest) t1 t2 t3 t4 t5 t6) n)) : LexP w a pbk rest T' h' := by
  simp only [List.nodup_cons, List.mem_cons, List.not_mem_nil, or_false, not_or] at nd
  refine ⟨e _ _ (by first | (simp [nd]; done) | (refine Ne.symm ?_; simp [nd]; done)) p.x, dx, ?_, ?_, ?_, ?_, ?_, ?_, ?_⟩
  · obtain ⟨f, q⟩ := p.st; exact ⟨f, e _ _ (by first | (simp [nd]; done) | (refine Ne.symm ?_; simp [nd]; done)) q⟩
  · obtain ⟨t, n, q⟩ := p.sd; exact ⟨t, n, e _ _ (by first | (simp [nd]; done) | (refine Ne.symm ?_; simp [nd]; done)) q⟩
  · obtain ⟨t, n, o, q, r⟩ := p.rd; exact ⟨t, n, o, e _ _ (by first | (simp [nd]; done) | (refine Ne.symm ?_; simp [nd]; done)) q, r⟩
  · obtain ⟨o, vs, t, q, r⟩ := p.cc; exact ⟨o, vs, t, e _ _ (by first | (simp [nd]; done) | (refine Ne.symm ?_; simp [nd]; done)) q, r⟩
  · obtain ⟨o, q, r⟩ := p.ce; exact ⟨o, e _ _ (by first | (simp [nd]; done) | (refine Ne.symm ?_; simp [nd]; done)) q, r⟩
  · obtain ⟨vs, q, r⟩ := p.sg; exact ⟨vs, q.at (e _ · (by first | (simp [nd]; done) | (refine Ne.symm ?_; simp [nd]; done))), r⟩
  · obtain ⟨vs, q, r⟩ := p.pb; exact ⟨vs, q.at (e _ · (by first | (simp [nd]; done) | (refine Ne.symm ?_; simp [nd]; done))), r⟩
theorem lex_nd {K : Frag} {g h : Heap} {w : World} {a : LA} {pbk : List Str} {rest : List Nat} {T : Int} {O N : List HD} (H : Led K g h (lexD w a pbk rest T :: O) N) : [a.x, a.dx, a.st, a.sd, a.rd, a.cc, a.ce, a.sg, a.pb].Nodup := by
  have := H.nd
  rw [List.cons_append, List.flatMap_cons] at this
  exact (List.nodup_append.mp this).1

theorem lex_fps {w : World} {a : LA} {pbk pbk' : List Str} {rest rest' : List Nat} {T T' : Int} : (lexD w a pbk rest T).fp = (lexD w a pbk' rest' T').fp := rfl

theorem Paired.snoc_inv {α β : Type} {F : α → β → Prop} {b : β} : ∀ {l₁ : List α} {l₂ : List β}, Paired F l₁ (l₂ ++ [b]) → ∃ l a, l₁ = l ++ [a] ∧ Paired F l l₂ ∧ F a b
  | _, [], .cons h .nil => ⟨[], _, rfl, .nil, h⟩
  | _, y :: l₂, .cons h t => by
    obtain ⟨l, a, rfl, p, q⟩ := Paired.snoc_inv t
    exact ⟨_ :: l, a, rfl, .cons h p, q⟩
theorem deeper_units' (A : Around) (env : Env) : (A.deeper env).units = A.units + 3 := rfl
theorem deeper_depth' (A : Around) (env : Env) : (A.deeper env).depth = A.depth + 1 := rfl

set_option maxRecDepth 100000 in
set_option maxHeartbeats 8000000 in
theorem rd_call {w : World} {A : Around} {h : Heap} {gs : Array GenState} {dr : Drawn} {tk : Nat} {os : OsState} {R : Result → Shared → Prop} {a : LA} {pbk : List Str} {rest : List Nat} {T : Int} {u : Tok}
    (H : Led (KK w) h h [lexD w a pbk rest T] []) (hd : A.depth < 900) (hu : A.units < 1000) (hsz : rest.length < 5000)
    (k : ∀ h' tk' t, Led (KK w) h h' [lexD w a pbk rest.tail (T - nls rest + nls rest.tail)] [] → R (.ok (.ret (.str (hdS rest) t))) ⟨h', gs, dr, tk', os⟩) :
    codeAny (model PG w) A (.call (.ref a.rd) ⟨[.int 1 u], []⟩) R ⟨h, gs, dr, tk, os⟩ := by
  have LP : LexP w a pbk rest T h := H.atO (j := 0) (d := lexD w a pbk rest T) rfl
  obtain ⟨pm, ctv, o, hrd, ho⟩ := LP.rd
  have ho := ho _ _ _ rfl
  subst ho
  obtain ⟨oc, cvs, t, hcc, hcd, hcv⟩ := LP.cc
  have hcr : h.CodeRec (.ref a.cc) "_law_lexer.<locals>.<lambda>" := ⟨_, oc, cvs, t, rfl, hcc, hcd, hcv⟩
  refine r_enterE (lv := [(("size" : Str), .int 1 u)]) H (Nat.lt_of_lt_of_le hd (by decide)) hrd (by rfl) (by exact hcr) (by rfl) (by rfl) (by rfl) (by rfl) (by rfl) (by rfl) (by rfl) (by rfl) ?_
  intro E' L h₁ tk₁ H1
  have L1 : LexP w a pbk rest T h₁ := H1.atO (j := 0) (d := lexD w a pbk rest T) rfl
  walk1
  walk1
  refine r_free (by rfl) (by rfl) (by rfl) L1.ce (by decide) (by decide) ?_
  walk1
  walk1
  refine r_newList H1 (by simp) ?_; intro a2 h2 tk2 H2
  have L2 : LexP w a pbk rest T h2 := H2.atO (j := 0) (d := lexD w a pbk rest T) rfl
  obtain ⟨vs, hvs, hp⟩ := L2.sg
  have he : h2.PlainList a2 ([] : List Value).toArray := H2.at (j := 1) (d := plainD a2 []) rfl
  refine r_neSS hvs.isList hp he.isList .nil (by show A.units + 3 < 9900; omega) ?_
  walk1
  cases rest with
  | nil =>
    walk1
    walk1
    have H3 := (H2.sub (N' := []) (List.nil_sublist _)).modO (j := 0) (d := lexD w a pbk [] T) (d' := lexD w a pbk [] T) rfl rfl (fun _ _ _ e => e) L2
    exact k _ _ _ (by simpa [nls] using H3)
  | cons c rest =>
    have hne : decide (List.map chS (c :: rest).reverse = []) = false := by simp
    rw [hne, if_pos (by decide)]
    walk1
    refine r_free (by rfl) (by rfl) (by rfl) L2.ce (by decide) (by decide) ?_
    refine r_lmeth hvs PySem.F.slot_list_pop PySem.F.type_list_pop ?_
    have hp' := hp
    rw [List.reverse_cons, List.map_append] at hp'
    obtain ⟨vs', v, rfl, hp1, t, rfl⟩ := Paired.snoc_inv hp'
    refine w_pop hvs (by have := hp1.length; simp at this hsz; omega) ?_; intro h3 hl3 hs3
    have nd := lex_nd H2
    have L3 : LexP w a pbk rest (T - nls (c :: rest) + nls rest) h3 := L2.setSg nd (fun b o hb e => hs3.extBut b o hb e) (by omega) ⟨vs', hl3, hp1⟩
    have H3 := (H2.sub (N' := []) (List.nil_sublist _)).modO (j := 0) (d := lexD w a pbk (c :: rest) T) (d' := lexD w a pbk rest (T - nls (c :: rest) + nls rest)) rfl rfl
      (fun b o hb e => hs3.extBut b o (fun q => hb (by rw [q]; simp [lexD])) e) L3
    exact k _ _ _ H3
/-- an attribute of the lexer -/
theorem r_lattr {w : World} {A : Around} {E : Value → Shared → Prop} {h : Heap} {gs : Array GenState} {dr : Drawn} {tk : Nat} {os : OsState} {a : LA} {pbk : List Str} {rest : List Nat} {T : Int} {name : Str} {expr : Bool} {Q : Value → Shared → Prop} {es : List DictEntry} {n : Nat} {v : Value}
    (G : Gd (KK w) h) (hx : h.get? a.x = some (instObj 52 a.dx)) (hd : h.get? a.dx = some (dictOf es n)) (hga : findIn (KK w) (.ref 52) "__getattribute__" = some (some (.builtin "object.__getattribute__")))
    (hf : findObj (KK w) 52 (some (dictOf es n)) name = some (.value v)) (hh : handedIn v = true) (q : ∀ tk', Q v ⟨h, gs, dr, tk', os⟩) :
    wpAny (model PG w) A (getAttr (.ref a.x) name expr) Q E ⟨h, gs, dr, tk, os⟩ :=
  get_value G.frag ⟨hx, rfl, rfl, hd⟩ hga hf hh (q _)

set_option maxRecDepth 100000 in
set_option maxHeartbeats 8000000 in
theorem rc_call {w : World} {A : Around} {h : Heap} {gs : Array GenState} {dr : Drawn} {tk : Nat} {os : OsState} {R : Result → Shared → Prop} {a : LA} {pbk : List Str} {rest : List Nat} {T : Int}
    (H : Led (KK w) h h [lexD w a pbk rest T] []) (hd : A.depth < 800) (hu : A.units < 900) (hsz : rest.length < 5000) (hT : 0 ≤ T ∧ T < 100000)
    (k : ∀ h' tk' t, Led (KK w) h h' [lexD w a pbk rest.tail T] [] → R (.ok (.ret (.str (hdS rest) t))) ⟨h', gs, dr, tk', os⟩) :
    codeAny (model PG w) A (.call (.ref 35) ⟨[.ref a.x], []⟩) R ⟨h, gs, dr, tk, os⟩ := by
  refine r_enter (lv := [(("self" : Str), .ref a.x)]) H (Nat.lt_of_lt_of_le hd (by decide)) rfl rfl rfl rfl rfl rfl rfl rfl rfl rfl ?_
  intro E' L h₁ tk₁ H1
  have L1 : LexP w a pbk rest T h₁ := H1.atO (j := 0) (d := lexD w a pbk rest T) rfl
  obtain ⟨t1, t2, t3, t4, t5, t6, n, hdx⟩ := L1.dx
  repeat' walk1
  refine r_lattr (pbk := pbk) (rest := rest) (T := T) H1.gd L1.x hdx (by rfl) (by rfl) (by rfl) ?_; intro tk2
  obtain ⟨fda, hst⟩ := L1.st
  obtain ⟨t7, n7, hsd⟩ := L1.sd
  refine r_fattr hst rfl rfl rfl hsd fn_read (by rfl) (by rfl) ?_; intro tk3
  refine r_callF ?_ (by rfl)
  walk1
  obtain ⟨pm, ctv, o, hrd, ho⟩ := L1.rd
  have ho := ho _ _ _ rfl
  refine ⟨⟨o, _, hrd, by rw [ho]⟩, ?_⟩
  refine wpAny_call (rd_call (H1.calleeO (j := 0) rfl) (by rw [deeper_depth']; omega) (by rw [deeper_units']; omega) hsz ?_); intro h4 tk4 t4' H4
  have H5 := H1.backO (j := 0) rfl (by rfl) H4
  simp only [List.set_cons_zero] at H5
  clear H4 H1 L1 H hdx hst hsd hrd ho
  dsimp only
  repeat' walk1
  · rename_i h6 tk6 H6 t6' tk6' hnl
    have L6 : LexP w a pbk rest.tail (T - nls rest + nls rest.tail) h6 := H6.atO (j := 0) (d := lexD w a pbk rest.tail (T - nls rest + nls rest.tail)) rfl
    obtain ⟨t1, t2, t3, t4, t5, t6, n, hdx⟩ := L6.dx
    refine r_lattr (pbk := pbk) (rest := rest.tail) (T := T) H6.gd L6.x hdx (by rfl) (by rfl) (by rfl) ?_; intro tk7
    repeat' walk1
    have hn := hdS_nl hnl
    refine r_setattr (es' := fun _ => lexEs w a (T - nls rest + nls rest.tail - nls rest.tail + 1) t1 _ t3 t4 t5 t6) (n' := n) H6.gd.frag L6.x hdx (by rfl) (by rfl) (by rfl) (by rfl) (by rfl) (by intro _; simp [lexEs]) (by intro _; rfl) ?_
    intro t8 h8 tk8 hd8 hs8
    have L8 : LexP w a pbk rest.tail T h8 := L6.setDx (lex_nd H6) (fun b o hb e => hs8.extBut b o hb e) ⟨_, _, _, _, _, _, _, by rw [show T - nls rest.tail = T - nls rest + nls rest.tail - nls rest.tail + 1 by omega]; exact hd8⟩
    have H8 := H6.modO (j := 0) (d' := lexD w a pbk rest.tail T) rfl rfl (fun b o hb e => hs8.extBut b o (fun q => hb (by rw [q]; simp [lexD])) e) L8
    simp only [List.set_cons_zero] at H8
    repeat' walk1
    exact k _ _ _ (H8.sub (List.nil_sublist _))
  · rename_i h6 tk6 H6 t6' tk6' hnl
    have hn := hdS_not hnl
    rw [show T - nls rest + nls rest.tail = T by omega] at H6
    exact k _ _ _ (H6.sub (List.nil_sublist _))
end Mine
end

section
open PySem PySem.W PySem.Calls PyProof.Rows
namespace Mine
theorem slot_ci_next : Slot "callable_iterator" "__next__" "callable_iterator.__next__" :=
  .of (owner := "callable_iterator") (n := "__next__") (by rw [typeLookup_type, builtinLookup_eq_fast]; kernel_rfl) (by decide +kernel) (by decide +kernel) (by decide +kernel)
    (by first | exact .inl (by decide +kernel) | exact .inr (by decide +kernel)) (by rw [isSubtype_type]; kernel_rfl)
theorem slot_ci_iter : Slot "callable_iterator" "__iter__" "callable_iterator.__iter__" :=
  .of (owner := "callable_iterator") (n := "__iter__") (by rw [typeLookup_type, builtinLookup_eq_fast]; kernel_rfl) (by decide +kernel) (by decide +kernel) (by decide +kernel)
    (by first | exact .inl (by decide +kernel) | exact .inr (by decide +kernel)) (by rw [isSubtype_type]; kernel_rfl)
theorem entry_ci_next : entryFor table "callable_iterator.__next__" = some Builtin.«callable_iterator.__next__» := entryFor_of_tree (by kernel_rfl)
theorem entry_ci_iter : entryFor table "callable_iterator.__iter__" = some Builtin.«dict_keyiterator.__iter__» :=
  entryFor_alias (id' := "dict_keyiterator.__iter__") (by kernel_rfl) (by first | rfl | decide +kernel) (by decide +kernel) (by kernel_rfl)
theorem owner_ci : Manifest.owners.lookup (String.ofList ['r', 'o', 't', 'a', 'r', 'e', 't', 'i', '_', 'e', 'l', 'b', 'a', 'l', 'l', 'a', 'c'].reverse) = some Manifest.sig_callable_iterator := by kernel_rfl
theorem args_ci_next (a : Value) : argsOk "callable_iterator.__next__" ⟨[a], []⟩ := by
  unfold argsOk; rw [signature?_of (id := "callable_iterator.__next__") (n := ['_', '_', 't', 'x', 'e', 'n', '_', '_']) (o := ['r', 'o', 't', 'a', 'r', 'e', 't', 'i', '_', 'e', 'l', 'b', 'a', 'l', 'l', 'a', 'c']) (by kernel_rfl) owner_ci]; kernel_rfl
theorem args_ci_iter (a : Value) : argsOk "callable_iterator.__iter__" ⟨[a], []⟩ := by
  unfold argsOk; rw [signature?_of (id := "callable_iterator.__iter__") (n := ['_', '_', 'r', 'e', 't', 'i', '_', '_']) (o := ['r', 'o', 't', 'a', 'r', 'e', 't', 'i', '_', 'e', 'l', 'b', 'a', 'l', 'l', 'a', 'c']) (by kernel_rfl) owner_ci]; kernel_rfl

theorem callBorrowed_eq (f : Value) (pos : List Value) : callBorrowed f pos = (call f pos).keep [borrowed] := by
  unfold callBorrowed call runValue run
  show Sem.call _ _ _ _ _ = Sem.call _ _ _ _ _
  congr 1
  funext r
  cases r with
  | error e => rfl
  | ok f => cases f <;> rfl

/-- the object of iter(f, sentinel) -/
abbrev ciObj (f sentinel : Value) : Obj := { cls := .type "callable_iterator", data := .fields #[f, sentinel, .bool false] }

section
variable {prog : Program} {w : World} {A : Around} {E : Value → Shared → Prop} {h : Heap} {gs : Array GenState} {dr : Drawn} {tk : Nat} {os : OsState}

theorem ci_iter {it : Addr} {f v : Value} {Q : Value → Shared → Prop} (hit : h.get? it = some (ciObj f v)) (q : Q (.ref it) ⟨h, gs, dr, tk, os⟩) : wpAny (model prog w) A (pyIter (.ref it)) Q E ⟨h, gs, dr, tk, os⟩ := by
  have hT : (⟨h, gs, dr, tk, os⟩ : Shared).TypeIs (.ref it) "callable_iterator" := ⟨_, hit, rfl⟩
  refine wpAny_pyIter_slot hT slot_ci_iter (wpAny_call_entry slot_ci_iter hT entry_ci_iter ?_ (args_ci_iter _))
  show wpAny _ _ (ret (.ref it)) _ _ _
  exact wpAny_pure ⟨_, rfl, "callable_iterator", _, hT, slot_ci_next.lookup, q⟩

/-- one more of iter(f, '') , f a method -/
theorem ci_next {it q f x : Addr} {t : Tok} {of : Obj} {fd : FuncData} {Q : Option Value → Shared → Prop} (hh : A.handled = none) (hit : h.get? it = some (ciObj (.ref q) (.str "" t))) (hq : h.get? q = some (methodObj (.ref f) (.ref x)))
    (hf : h.get? f = some of) (hfd : of.data = .func fd)
    (hc : codeAny (model prog w) A.in1 (.call (.ref f) ⟨[.ref x], []⟩) (fun r s' => ∃ y u h' tk', r = .ok (.ret (.str y u)) ∧ s' = ⟨h', gs, dr, tk', os⟩ ∧ h'.get? it = some (ciObj (.ref q) (.str "" t)) ∧ h'.get? q = some (methodObj (.ref f) (.ref x)) ∧ (∃ of fd, h'.get? f = some of ∧ of.data = .func fd) ∧
      (if y = "" then ∀ h'', (∀ b o, b ≠ it → h'.get? b = some o → h''.get? b = some o) → Q none ⟨h'', gs, dr, tk', os⟩ else Q (some (.str y u)) ⟨h', gs, dr, tk', os⟩)) ⟨h, gs, dr, tk, os⟩) :
    wpAny (model prog w) A (pyNext (.ref it)) Q E ⟨h, gs, dr, tk, os⟩ := by
  have hT : (⟨h, gs, dr, tk, os⟩ : Shared).TypeIs (.ref it) "callable_iterator" := ⟨_, hit, rfl⟩
  unfold pyNext
  refine wpAny_bind (wpAny_attempt (wpAny_callSpecial?_slot (name := Str.ofString "__next__") hT slot_ci_next (wpAny_call_entry slot_ci_next hT entry_ci_next ?_ (args_ci_next _))))
  unfold Builtin.«callable_iterator.__next__»
  refine wpAny_bind (wpAny_pure ?_)
  refine wpAny_bind (wpAny_field hit rfl (x := .bool false) rfl ?_)
  refine wpAny_bind (wpAny_field hit rfl (x := .ref q) rfl ?_)
  refine wpAny_bind (wpAny_attempt ?_)
  unfold callOutOfASlot
  have bor : ∀ {h' : Heap}, h'.get? q = some (methodObj (.ref f) (.ref x)) → (∃ of fd, h'.get? f = some of ∧ of.data = .func fd) → Looks (model prog w) h' (borrowsExactly (.ref q)) true := by
    intro h' h1 h2
    obtain ⟨of, fd, h2, h3⟩ := h2
    refine (Looks.ld (part := none) h1).andThen ?_
    refine (show Looks (model prog w) h' _ true from ?_)
    refine (Looks.ld (part := none) h2).andThen ?_
    rw [h3]
    exact .now
  refine wpAny_bind ((bor hq ⟨of, fd, hf, hfd⟩).at ?_)
  rw [if_pos rfl, callBorrowed_eq]
  refine wpAny_keep (wpAny_call (method_call (s := ⟨h, gs, dr, tk, os⟩) hq (codeAny_mono hc ?_)))
  rintro r s' ⟨y, u, h', tk', rfl, rfl, hit', hq', hf', hQ⟩
  dsimp only
  refine wpAny_bind (wpAny_field hit' rfl (x := .bool false) rfl ?_)
  refine wpAny_bind (wpAny_field hit' rfl (x := .str "" t) rfl ?_)
  refine wpAny_bind (wpAny_holding (wpAny_eqBool_str ?_))
  by_cases hy : y = ""
  · subst hy
    rw [if_pos rfl] at hQ
    refine wpAny_bind (wpAny_rule ?_)
    refine wpAny_bind ?_
    show wpAny _ _ (field (.ref it) 0 >>= _) _ _ _
    refine wpAny_bind (wpAny_field hit' rfl (x := .ref q) rfl ?_)
    refine wpAny_bind ?_
    unfold slotLetsGo
    refine wpAny_bind ((bor hq' hf').at ?_)
    refine wpAny_pure ?_
    refine wpAny_bind (wpAny_setField hit' rfl (by simp) ?_)
    refine wpAny_bind (wpAny_setField (Heap.get?_update_self _ hit' rfl) rfl (by simp) ?_)
    refine wpAny_setField (Heap.get?_update_self _ (Heap.get?_update_self _ hit' rfl) rfl) rfl (by simp) ?_
    show wpAny _ _ (newExc (.type "StopIteration") [] >>= _) _ _ _
    refine wpAny_bind ?_
    simp only [newExc, newTuple]
    refine wpAny_bind (wpAny_newObj_type ?_ (by size_fits))
    refine wpAny_bind (m := firstArgMember _ _) (wpAny_of_eq (a := Value.none) (by first | rfl | (simp only [firstArgMember]; rfl)) ?_)
    refine wpAny_newObj_type ?_ (by size_fits)
    simp only [raiseNew]
    refine wpAny_bind (wpAny_handled ?_)
    rw [show A.in1.handled = none from hh]
    refine wpAny_bind (wpAny_pure (wpAny_throw ?_))
    refine wpAny_bind (wpAny_isInstance (T := "StopIteration") (b := true) ⟨_, Heap.get?_push_size _ rfl, rfl⟩ isSubtype_stop ?_)
    refine wpAny_pure (hQ _ fun b o hb e => ?_)
    have n1 : ∀ (H : Heap) (f : Obj → Obj), H.get? b = some o → (H.update it f).get? b = some o := fun H f e => by rw [Heap.get?_update_other _ _ (Ne.symm hb)]; exact e
    exact Heap.get?_push_of_some _ (Heap.get?_push_of_some _ (n1 _ _ (n1 _ _ (n1 _ _ e))))
  · rw [if_neg hy] at hQ
    rw [decide_eq_false (fun e => hy e.symm)]
    exact wpAny_pure ⟨_, rfl, wpAny_pure hQ⟩
end
end Mine
namespace Mine
theorem args_iter2 (a b : Value) : argsOk "iter" ⟨[a, b], []⟩ := by unfold argsOk; kernel_rfl
theorem me_call : typeLookup (.type "method") "__call__" = pure (some (.builtin "method.__call__")) := by rw [typeLookup_type, builtinLookup_eq_fast]; kernel_rfl
section
variable {prog : Program} {w : World} {A : Around} {E : Value → Shared → Prop} {K : Frag} {g h : Heap} {O N : List HD} {gs : Array GenState} {dr : Drawn} {tk : Nat} {os : OsState}
theorem ci_make {q : Addr} {f x v : Value} {Q : Value → Shared → Prop} (hq : h.get? q = some (methodObj f x)) (k : Q (.ref h.objs.size) ⟨h.push (ciObj (.ref q) v), gs, dr, tk, os⟩) :
    wpAny (model prog w) A (call (.builtin "iter") [.ref q, v]) Q E ⟨h, gs, dr, tk, os⟩ := by
  refine Calls.call_function_entry (by decide +kernel) (by decide +kernel) PySem.W.kdk_entry_iter (args_iter2 _ _) ?_
  unfold Builtin.«iter»
  refine wpAny_bind (m := someArgs "iter" 1 2 _) (wpAny_of_eq (a := [Value.ref q, v]) (by first | rfl | kernel_rfl!) ?_)
  have hT : (⟨h, gs, dr, tk, os⟩ : Shared).TypeIs (.ref q) "method" := ⟨_, hq, rfl⟩
  refine wpAny_bind (wpAny_specialOf hT me_call ?_)
  refine wpAny_bind (wpAny_rule (wpAny_bind (wpAny_newObj_type (wpAny_pure ⟨_, rfl, k⟩) (by size_fits))))
end
end Mine
namespace Mine
section
variable {prog : Program} {w : World} {A : Around} {E : Value → Shared → Prop} {h : Heap} {gs : Array GenState} {dr : Drawn} {tk : Nat} {os : OsState}
theorem r_truL {l : Addr} {vs : List Value} {Q : Bool → Shared → Prop} (hl : h.IsList l vs.toArray) (hsz : vs.length < 100000) (q : ∀ tk', Q (!vs.isEmpty) ⟨h, gs, dr, tk', os⟩) : wpAny (model prog w) A (truthy (.ref l)) Q E ⟨h, gs, dr, tk, os⟩ := by
  refine wpAny_truthy_list hl (by simp; omega) ?_
  cases vs with
  | nil => simpa using q _
  | cons v vs => simpa using q _
end
end Mine
end

section
open PySem PySem.W PySem.Calls PyProof.Rows
namespace Mine
def isWs (c : Nat) : Bool := c == 10 || c == 9 || c == 13 || c == 32
def tokU : List Nat → List Nat → Option (List Nat × List Nat)
  | _, [] => none
  | acc, c :: r => if isWs c then some (acc, r) else if c = 92 then (match r with | [] => none | c' :: r' => tokU (acc ++ [c']) r') else tokU (acc ++ [c]) r
def tokQ : List Nat → List Nat → Option (List Nat × List Nat)
  | _, [] => none
  | acc, c :: r => if c = 34 then some (acc, r) else if c = 92 then (match r with | [] => none | c' :: r' => tokQ (acc ++ [c']) r') else tokQ (acc ++ [c]) r
def tok : List Nat → Option (List Nat × List Nat)
  | [] => some ([], [])
  | c :: r => if isWs c then tok r else if c = 34 then tokQ [] r else if c = 92 then (match r with | [] => none | c' :: r' => tokU [c'] r') else tokU [c] r
def stS (cs : List Nat) : Str := ⟨cs.toArray⟩

/-- the iterator of get_token -/
def citD (it q : Addr) : HD where
  fp := [it]
  P h := ∃ t, h.get? it = some (ciObj (.ref q) (.str "" t))
  st h h' e p := by
    obtain ⟨t, p1⟩ := p
    exact ⟨t, e it (by simp) _ p1⟩
  al h p b hb := by
    obtain ⟨t, p1⟩ := p
    cases List.mem_singleton.mp hb
    exact ⟨_, p1⟩

theorem r_iterC {w : World} {A : Around} {E : Value → Shared → Prop} {K : Frag} {g h : Heap} {O N : List HD} {gs : Array GenState} {dr : Drawn} {tk : Nat} {os : OsState} {q : Addr} {f x : Value} {t : Tok} {j : Nat} {Q : Value → Shared → Prop}
    (H : Led K g h O N) (hj : N[j]? = some (objD q (methodObj f x))) (k : ∀ it h' tk', Led K g h' O (N ++ [citD it q]) → Q (.ref it) ⟨h', gs, dr, tk', os⟩) :
    wpAny (model PG w) A (call (.builtin "iter") [.ref q, .str "" t]) Q E ⟨h, gs, dr, tk, os⟩ :=
  ci_make (H.at hj) (k _ _ _ (H.new (push_e _) ⟨_, Heap.get?_push_size _ rfl⟩ (by intro a ha; cases List.mem_singleton.mp ha; exact none_size h) (by simp [citD])))
theorem in_ws {prog : Program} {w : World} {A : Around} {E : Value → Shared → Prop} {s : Shared} {c : Nat} {t u : Tok} {Q : Value → Shared → Prop} (q : Q (.bool (isWs c)) s) :
    wpAny (model prog w) A (compareOp .In (.str (chS c) u) (.str "\n\t\u000d " t)) Q E s := by
  refine PyProof.Rows.in_str ?_
  rw [show chS c = (⟨#[c]⟩ : Str) from rfl, StrLaws.found_one]
  have : decide (c ∈ (Str.ofString "\n\t\u000d ").cps.toList) = isWs c := by
    rw [show (Str.ofString "\n\t\u000d ").cps.toList = [10, 9, 13, 32] from by decide]
    unfold isWs
    rw [Bool.eq_iff_iff]; simp [or_assoc]
  rw [this]; exact q
theorem chS_q : (Str.ofString "\"") = chS 34 := by decide
theorem chS_bs : (Str.ofString "\\") = chS 92 := by decide
theorem eq_chS {prog : Program} {w : World} {A : Around} {E : Value → Shared → Prop} {s : Shared} {c d : Nat} {t u : Tok} {x : Str} {Q : Value → Shared → Prop} (hx : x = chS d) (q : Q (.bool (decide (c = d))) s) :
    wpAny (model prog w) A (compareOp .Eq (.str (chS c) u) (.str x t)) Q E s := by
  subst hx
  refine PyProof.Rows.eq_str ?_
  rw [show (chS c == chS d) = decide (c = d) from by rw [Bool.eq_iff_iff]; simp [chS_eq]]
  exact q
theorem chS_ne (c : Nat) : ¬ chS c = "" := fun e => by
  have h1 : (chS c).cps.size = 1 := rfl
  have h2 : (Str.ofString "").cps.size = 0 := by decide
  rw [e, h2] at h1; cases h1
section
variable {w : World} {A : Around} {E : Value → Shared → Prop} {g h : Heap} {N : List HD} {gs : Array GenState} {dr : Drawn} {tk : Nat} {os : OsState} {a : LA} {pbk : List Str} {rest : List Nat} {T : Int} {it q : Addr} {j : Nat}
theorem new_apart {K : Frag} {O : List HD} {d e : HD} (H : Led K g h (d :: O) N) (hj : N[j]? = some e) {b : Addr} (hb : b ∈ e.fp) : b ∉ d.fp := by
  have hjj : (d :: O ++ N)[(d :: O).length + j]? = some e := by rw [List.getElem?_append_right (by omega), Nat.add_sub_cancel_left]; exact hj
  exact fun hm => nodup_apart H.nd (i := 0) rfl hjj (by simp only [List.length_cons]; omega) hm hb

set_option maxRecDepth 100000 in
theorem r_nextC {Q : Option Value → Shared → Prop} (H : Led (KK w) g h [lexD w a pbk rest T] N) (hj : N[j]? = some (citD it q)) {j2 : Nat} (hj2 : N[j2]? = some (objD q (methodObj (.ref 35) (.ref a.x)))) (hd : A.depth < 800) (hu : A.units < 800) (hA : A.handled = none) (hsz : rest.length < 5000) (hT : 0 ≤ T ∧ T < 100000)
    (k1 : ∀ c r, rest = c :: r → ∀ t h' tk', Led (KK w) g h' [lexD w a pbk r T] N → Q (some (.str (chS c) t)) ⟨h', gs, dr, tk', os⟩)
    (k0 : rest = [] → ∀ h' tk', Led (KK w) g h' [lexD w a pbk [] T] (N.eraseIdx j) → Q none ⟨h', gs, dr, tk', os⟩) :
    wpAny (model PG w) A (pyNext (.ref it)) Q E ⟨h, gs, dr, tk, os⟩ := by
  obtain ⟨t, hit⟩ := H.at hj
  have hq : h.get? q = some (methodObj (.ref 35) (.ref a.x)) := H.at hj2
  have n1 := new_apart H hj (b := it) (by simp [citD])
  have n2 := new_apart H hj2 (b := q) (by simp [objD])
  have hf : ∀ {h' : Heap}, Gd (KK w) h' → ∃ of fd, h'.get? 35 = some of ∧ of.data = .func fd := fun G => ⟨_, _, G.frag 35 _ rfl, rfl⟩
  obtain ⟨of, fd, hf1, hf2⟩ := hf H.gd
  refine ci_next hA hit hq hf1 hf2 (rc_call (H.calleeO (j := 0) rfl) (by show A.depth < 800; omega) (by show A.units + 1 < 900; omega) hsz hT ?_)
  intro h' tk' u H'
  have H2 := H.backO (j := 0) rfl (by rfl) H'
  simp only [List.set_cons_zero] at H2
  refine ⟨_, u, h', tk', rfl, rfl, H'.keep _ _ hit (by simpa [lexD] using n1), H'.keep _ _ hq (by simpa [lexD] using n2), hf H'.gd, ?_⟩
  cases rest with
  | nil =>
    rw [if_pos (by rfl)]
    intro h'' hk
    exact k0 rfl _ _ (H2.drop hj fun b o hb e => hk b o (fun e' => hb (by rw [e']; simp [citD])) e)
  | cons c r =>
    rw [if_neg (show ¬ hdS (c :: r) = "" from chS_ne c)]
    exact k1 c r rfl _ _ _ H2
end
local macro_rules | `(tactic| walk_at "eval Name") => `(tactic| (refine r_blt (by rfl) (by rfl) (by assumption) (by rfl) (by rfl) (by rfl) (by boot_by_name) (by decide) (by decide) ?_))
local macro_rules | `(tactic| walk_at "eval Name") => `(tactic| (refine r_glob (by rfl) (by rfl) (by assumption) (by rfl) (by rfl) (by decide) ?_))
local macro_rules | `(tactic| walk_at "eval Name") => `(tactic| (refine r_loc (by rfl) (by rfl) (by assumption) (by rfl) (by rfl) (by first | rfl | assumption) (by decide) ?_))
local macro_rules | `(tactic| walk_at "storeName") => `(tactic| (refine r_sto (by assumption) (by rfl) (by rfl) (by rfl) (by rfl) ?_; intro h' tk' H'; (try simp only [List.cons_append, List.nil_append, List.set_cons_zero, List.set_cons_succ] at H')))
local macro_rules | `(tactic| walk_at "newList") => `(tactic| (refine r_newList (by assumption) (by simp [sizeLine]) ?_; intro a' h' tk' H'; (try simp only [List.cons_append, List.nil_append, List.set_cons_zero, List.set_cons_succ] at H')))
local macro_rules | `(tactic| walk_at "eval Constant int") => `(tactic| (refine r_cint ?_; intro _ _))
local macro_rules | `(tactic| walk_at "eval Constant str") => `(tactic| (refine r_cstr ?_; intro _ _))
local macro_rules | `(tactic| walk_at "binaryOp Add int int") => `(tactic| (refine r_add ?_; intro _ _))
local macro_rules | `(tactic| walk_at "binaryOp Sub int int") => `(tactic| (refine r_sub ?_; intro _ _))


/-- the lexer's method, bound -/
theorem r_bmeth {w : World} {A : Around} {E : Value → Shared → Prop} {K : Frag} {h : Heap} {gs : Array GenState} {dr : Drawn} {tk : Nat} {os : OsState} {x dx C f : Addr} {es : List DictEntry} {n : Nat} {name : Str} {expr : Bool} {Q : Value → Shared → Prop}
    (X : K.In h) (hx : h.get? x = some (instObj C dx)) (hd : h.get? dx = some (dictOf es n)) (hga : findIn K (.ref C) "__getattribute__" = some (some (.builtin "object.__getattribute__")))
    (hf : findObj K C (some (dictOf es n)) name = some (.bind (.builtin "function.__get__") (.ref f))) (hk : findIn K (.ref C) "__getattr__" = some none) (ht : typeIn K (.ref f) = some (.type "function"))
    (q : ∀ tk', Q (.ref h.objs.size) ⟨h.push (methodObj (.ref f) (.ref x)), gs, dr, tk', os⟩) :
    wpAny (model PG w) A (getAttr (.ref x) name expr) Q E ⟨h, gs, dr, tk, os⟩ := by
  refine get_bind (s := ⟨h, gs, dr, tk, os⟩) X ⟨hx, rfl, rfl, hd⟩ hga hf hk (wpAny_call (fn_get (s := ⟨h, gs, dr, tk + 1, os⟩) X ht ?_))
  dsimp only
  rw [handedOut_of (by rfl)]
  exact wpAny_pure (q _)

section
variable {w : World} {A : Around} {E : Value → Shared → Prop} {h : Heap} {gs : Array GenState} {dr : Drawn} {tk : Nat} {os : OsState} {a : LA} {pbk : List Str} {rest : List Nat} {T : Int} {expr : Bool} {Q : Value → Shared → Prop}
theorem r_pbA (G : Gd (KK w) h) (L : LexP w a pbk rest T h) (q : ∀ tk', Q (.ref a.pb) ⟨h, gs, dr, tk', os⟩) : wpAny (model PG w) A (getAttr (.ref a.x) "pushback" expr) Q E ⟨h, gs, dr, tk, os⟩ := by
  obtain ⟨t1, t2, t3, t4, t5, t6, n, hdx⟩ := L.dx
  exact r_lattr (pbk := pbk) (rest := rest) (T := T) (v := .ref a.pb) G L.x hdx (by rfl) (by rfl) (by rfl) q
theorem r_wsA (G : Gd (KK w) h) (L : LexP w a pbk rest T h) (q : ∀ t tk', Q (.str "\n\t\u000d " t) ⟨h, gs, dr, tk', os⟩) : wpAny (model PG w) A (getAttr (.ref a.x) "whitespace" expr) Q E ⟨h, gs, dr, tk, os⟩ := by
  obtain ⟨t1, t2, t3, t4, t5, t6, n, hdx⟩ := L.dx
  exact r_lattr (pbk := pbk) (rest := rest) (T := T) (v := .str "\n\t\u000d " t5) G L.x hdx (by rfl) (by rfl) (by rfl) (q t5)
theorem r_lnA (G : Gd (KK w) h) (L : LexP w a pbk rest T h) (q : ∀ t tk', Q (.int (T - nls rest) t) ⟨h, gs, dr, tk', os⟩) : wpAny (model PG w) A (getAttr (.ref a.x) "lineno" expr) Q E ⟨h, gs, dr, tk, os⟩ := by
  obtain ⟨t1, t2, t3, t4, t5, t6, n, hdx⟩ := L.dx
  exact r_lattr (pbk := pbk) (rest := rest) (T := T) (v := .int (T - nls rest) t2) G L.x hdx (by rfl) (by rfl) (by rfl) (q t2)
theorem r_rcM {K' : Frag} {g : Heap} {O N : List HD} (H : Led (KK w) g h (lexD w a pbk rest T :: O) N) (q : ∀ m h' tk', Led (KK w) g h' (lexD w a pbk rest T :: O) (N ++ [objD m (methodObj (.ref 35) (.ref a.x))]) → Q (.ref m) ⟨h', gs, dr, tk', os⟩) :
    wpAny (model PG w) A (getAttr (.ref a.x) "_read_char" expr) Q E ⟨h, gs, dr, tk, os⟩ := by
  have L : LexP w a pbk rest T h := H.atO (j := 0) (d := lexD w a pbk rest T) rfl
  obtain ⟨t1, t2, t3, t4, t5, t6, n, hdx⟩ := L.dx
  exact r_bmeth H.gd.frag L.x hdx (by rfl) (by rfl) (by rfl) (by rfl) fun tk' => q _ _ _ (H.new (push_e _) (Heap.get?_push_size _ rfl) (by intro a ha; cases List.mem_singleton.mp ha; exact none_size h) (by simp [objD]))
end

theorem r_ldn {w : World} {A : Around} {E : Value → Shared → Prop} {K : Frag} {g h : Heap} {O N : List HD} {gs : Array GenState} {dr : Drawn} {tk : Nat} {os : OsState} {env : Env} {L : Addr} {lv : List (Str × Value)} {x : Str} {v : Value} {Q : Value → Shared → Prop} (hl : env.kindOf x = some .local) (hk : env.scope.kind = .function) (H : Led K g h O N) (hj : N[0]? = some (nsD L lv)) (hL : env.locals = L) (hv : lv.lookup x = some v)
    (q : Q v ⟨h, gs, dr, tk, os⟩) : wpAny (model PG w) A (loadName env x) Q E ⟨h, gs, dr, tk, os⟩ := by
  subst hL
  exact wpAny_loadName_local hk hl (H.at hj) hv q
local macro_rules | `(tactic| walk_at "loadName") => `(tactic| (refine r_ldn (by rfl) (by rfl) (by assumption) (by rfl) (by rfl) (by first | rfl | assumption) ?_))

theorem r_iaddS {prog : Program} {w : World} {A : Around} {E : Value → Shared → Prop} {h : Heap} {gs : Array GenState} {dr : Drawn} {tk : Nat} {os : OsState} {x y : Str} {t u : Tok} {Q : Value → Shared → Prop} (hsz : x.length + y.length ≤ sizeLine) (q : ∀ t tk', Q (.str (x ++ y) t) ⟨h, gs, dr, tk', os⟩) :
    wpAny (model prog w) A (inplaceOp .Add (.str x t) (.str y u)) Q E ⟨h, gs, dr, tk, os⟩ := PyProof.Rows.iadd_str (fun t' tk' => q t' tk') hsz
theorem stS_len (cs : List Nat) : (stS cs).length = cs.length := by simp [stS, Str.length]
/-- a method of the lexer's class -/
theorem r_lmethod {w : World} {A : Around} {E : Value → Shared → Prop} {h : Heap} {gs : Array GenState} {dr : Drawn} {tk : Nat} {os : OsState} {a : LA} {pbk : List Str} {rest : List Nat} {T : Int} {name : Str} {f : Addr} {pl : Sem Bool} {Q : Value × List Value → Shared → Prop}
    (G : Gd (KK w) h) (L : LexP w a pbk rest T h) (hf : findIn (KK w) (.ref 52) name = some (some (.ref f))) (ht : typeIn (KK w) (.ref f) = some (.type "function")) (hs : ∀ t1 t2 t3 t4 t5 t6 n, shadowIn (some (dictOf (lexEs w a (T - nls rest) t1 t2 t3 t4 t5 t6) n)) name = some false)
    (q : Q (.ref f, [.ref a.x]) ⟨h, gs, dr, tk, os⟩) : wpAny (model PG w) A (getMethod (.ref a.x) name pl) Q E ⟨h, gs, dr, tk, os⟩ := by
  obtain ⟨t1, t2, t3, t4, t5, t6, n, hdx⟩ := L.dx
  exact method_fn (s := ⟨h, gs, dr, tk, os⟩) G.frag ⟨L.x, rfl, rfl, hdx⟩ (by rfl) (by rfl) hf ht (hs t1 t2 t3 t4 t5 t6 n) q
theorem stS_one (c : Nat) : stS [c] = chS c := rfl
theorem chS_len (c : Nat) : (chS c).length = 1 := rfl

noncomputable def fnAt (w : World) (f : Nat) : Option FuncData := match (KK w).lookup f with
  | some ⟨_, _, .func fd, _⟩ => some fd
  | _ => none
noncomputable def innerQ (w : World) : Option Stmt := (fnAt w 42).bind fun fd => match fd.body with
  | .stmts [_, _, _, .For _ _ [_, .If _ [q] [_, _, _] _] _ _, _] => some q
  | _ => none
noncomputable def innerU (w : World) : Option Stmt := (fnAt w 42).bind fun fd => match fd.body with
  | .stmts [_, _, _, .For _ _ [_, .If _ [_] [_, _, u] _] _ _, _] => some u
  | _ => none
theorem stS_app (cs : List Nat) (c : Nat) : stS cs ++ chS c = stS (cs ++ [c]) := by
  apply Str.ext'
  rw [Str.cps_append]
  simp [stS, chS]

set_option maxRecDepth 100000 in
set_option maxHeartbeats 8000000 in
theorem qLoop {w : World} {A : Around} {E : Value → Shared → Prop} {g h : Heap} {gs : Array GenState} {dr : Drawn} {tk : Nat} {os : OsState} {Q : Flow → Shared → Prop} {a : LA} {r rest' wd acc : List Nat} {T : Int} {L m it : Addr} {lv : List (Str × Value)} {t0 : Tok} {stm : Stmt} {fd : FuncData}
    (hst : innerQ w = some stm) (hfd : fnAt w 42 = some fd) (hd : A.depth < 790) (hu : A.units < 790) (hA : A.handled = none) (hT : 0 ≤ T ∧ T < 100000)
    (H : Led (KK w) g h [lexD w a [] r T] [nsD L lv, objD m (methodObj (.ref 35) (.ref a.x)), citD it m]) (e1 : lv.lookup ("self" : Str) = some (.ref a.x)) (e2 : lv.lookup ("token" : Str) = some (.str (stS acc) t0)) (e3 : lv.lookup ("fiter" : Str) = some (.ref it))
    (hs : r.length < 5000) (hs2 : acc.length + r.length < 9000) (ht : tokQ acc r = some (wd, rest'))
    (q : ∀ t h' tk', Led (KK w) g h' [lexD w a [] rest' T] [] → Q (.ret (.str (stS wd) t)) ⟨h', gs, dr, tk', os⟩) :
    wpAny (model PG w) A (exec stm (callEnv fd L 42)) Q E ⟨h, gs, dr, tk, os⟩ := by
  have es := Option.some.inj (show some _ = some stm from hst)
  have ef := Option.some.inj (show some _ = some fd from hfd)
  subst es ef
  refine r_for (by intro _; rfl) ?_
  walk1
  obtain ⟨tt, hit5⟩ : ∃ t, h.get? it = some (ciObj (.ref m) (.str "" t)) := H.at (j := 2) (d := citD it m) rfl
  refine ci_iter hit5 ?_
  refine ⟨fun n h' => ∃ r lv acc t0, n = r.length + 1 ∧ Led (KK w) g h' [lexD w a [] r T] [nsD L lv, objD m (methodObj (.ref 35) (.ref a.x)), citD it m] ∧ lv.lookup ("self" : Str) = some (.ref a.x) ∧ lv.lookup ("token" : Str) = some (.str (stS acc) t0) ∧
    lv.lookup ("fiter" : Str) = some (.ref it) ∧ r.length < 5000 ∧ acc.length + r.length < 9000 ∧ tokQ acc r = some (wd, rest'), r.length + 1, _, _, rfl, ⟨r, _, _, _, rfl, H, e1, e2, e3, hs, hs2, ht⟩, by intro _; rfl, ?_⟩
  clear hit5 H e1 e2 e3 hs hs2 ht
  intro E2 n h6 tk6 ⟨r, lv, acc, t0, hn, H6, e1, e2, e3, hs, hs2, ht6⟩
  refine r_nextC (j := 2) (j2 := 1) H6 (by rfl) (by rfl) (by omega) (by omega) hA hs hT ?_ ?_
  · intro c r' hr t7 h7 tk7 H7
    subst hr
    unfold tokQ at ht6
    simp only [List.length_cons] at hn hs hs2
    repeat' walk1
    · rename_i h8 tk8 H8 _ _ hc
      have hc : c = 34 := by rw [chS_q] at hc; exact chS_eq.mp (eq_of_beq hc)
      rw [if_pos hc] at ht6
      obtain ⟨rfl, rfl⟩ := Prod.mk.inj (Option.some.inj ht6)
      exact q _ _ _ (H8.sub (List.nil_sublist _))
    · rename_i h8 tk8 H8 _ _ hc _ _ hb
      have hc : ¬ c = 34 := fun e => by rw [e, ← chS_q] at hc; simp at hc
      have hb : c = 92 := by rw [chS_bs] at hb; exact chS_eq.mp (eq_of_beq hb)
      rw [if_neg hc, if_pos hb] at ht6
      cases r' with
      | nil => cases ht6
      | cons c2 r2 =>
        simp only [List.length_cons] at hn hs hs2
        dsimp only at ht6
        have L8 : LexP w a [] (c2 :: r2) T h8 := H8.atO (j := 0) (d := lexD w a [] (c2 :: r2) T) rfl
        refine r_lmethod (f := 35) H8.gd L8 (by rfl) (by rfl) (by intros; rfl) ?_
        refine callWith_K0 (K := KK w) H8.gd.frag (by rfl) ?_
        refine wpAny_call (rc_call (H8.calleeO (j := 0) rfl) (by omega) (by omega) (by simp; omega) hT ?_); intro h9 tk9 t9 H9
        have H10 := H8.backO (j := 0) rfl (by rfl) H9
        simp only [List.set_cons_zero, List.tail_cons] at H10
        dsimp only [hdS]
        repeat' walk1
        refine r_iaddS (by rw [stS_len, chS_len]; simp [sizeLine]; omega) ?_; intro t11 tk11
        rw [stS_app]
        repeat' walk1
        exact Nx.mk (by omega) ⟨r2, _, acc ++ [c2], _, rfl, by assumption, by exact e1, by rfl, by exact e3, by omega, by simp; omega, ht6⟩
    · rename_i h8 tk8 H8 _ _ hc _ _ hb
      have hc : ¬ c = 34 := fun e => by rw [e, ← chS_q] at hc; simp at hc
      have hb : ¬ c = 92 := fun e => by rw [e, ← chS_bs] at hb; simp at hb
      rw [if_neg hc, if_neg hb] at ht6
      refine r_iaddS (by rw [stS_len, chS_len]; simp [sizeLine]; omega) ?_; intro t11 tk11
      rw [stS_app]
      repeat' walk1
      exact Nx.mk (by omega) ⟨r', _, acc ++ [c], _, rfl, by assumption, by exact e1, by rfl, by exact e3, by omega, by simp; omega, ht6⟩
  · intro hr h7 tk7 H7
    subst hr
    unfold tokQ at ht6
    cases ht6
set_option maxRecDepth 100000 in
set_option maxHeartbeats 8000000 in
theorem uLoop {w : World} {A : Around} {E : Value → Shared → Prop} {g h : Heap} {gs : Array GenState} {dr : Drawn} {tk : Nat} {os : OsState} {Q : Flow → Shared → Prop} {a : LA} {r rest' wd acc : List Nat} {T : Int} {L m it : Addr} {lv : List (Str × Value)} {t0 : Tok} {stm : Stmt} {fd : FuncData}
    (hst : innerU w = some stm) (hfd : fnAt w 42 = some fd) (hd : A.depth < 790) (hu : A.units < 790) (hA : A.handled = none) (hT : 0 ≤ T ∧ T < 100000)
    (H : Led (KK w) g h [lexD w a [] r T] [nsD L lv, objD m (methodObj (.ref 35) (.ref a.x)), citD it m]) (e1 : lv.lookup ("self" : Str) = some (.ref a.x)) (e2 : lv.lookup ("token" : Str) = some (.str (stS acc) t0)) (e3 : lv.lookup ("fiter" : Str) = some (.ref it))
    (hs : r.length < 5000) (hs2 : acc.length + r.length < 9000) (ht : tokU acc r = some (wd, rest'))
    (q : ∀ t h' tk', Led (KK w) g h' [lexD w a [] rest' T] [] → Q (.ret (.str (stS wd) t)) ⟨h', gs, dr, tk', os⟩) :
    wpAny (model PG w) A (exec stm (callEnv fd L 42)) Q E ⟨h, gs, dr, tk, os⟩ := by
  have es := Option.some.inj (show some _ = some stm from hst)
  have ef := Option.some.inj (show some _ = some fd from hfd)
  subst es ef
  refine r_for (by intro _; rfl) ?_
  walk1
  obtain ⟨tt, hit5⟩ : ∃ t, h.get? it = some (ciObj (.ref m) (.str "" t)) := H.at (j := 2) (d := citD it m) rfl
  refine ci_iter hit5 ?_
  refine ⟨fun n h' => ∃ r lv acc t0, n = r.length + 1 ∧ Led (KK w) g h' [lexD w a [] r T] [nsD L lv, objD m (methodObj (.ref 35) (.ref a.x)), citD it m] ∧ lv.lookup ("self" : Str) = some (.ref a.x) ∧ lv.lookup ("token" : Str) = some (.str (stS acc) t0) ∧
    lv.lookup ("fiter" : Str) = some (.ref it) ∧ r.length < 5000 ∧ acc.length + r.length < 9000 ∧ tokU acc r = some (wd, rest'), r.length + 1, _, _, rfl, ⟨r, _, _, _, rfl, H, e1, e2, e3, hs, hs2, ht⟩, by intro _; rfl, ?_⟩
  clear hit5 H e1 e2 e3 hs hs2 ht
  intro E2 n h6 tk6 ⟨r, lv, acc, t0, hn, H6, e1, e2, e3, hs, hs2, ht6⟩
  refine r_nextC (j := 2) (j2 := 1) H6 (by rfl) (by rfl) (by omega) (by omega) hA hs hT ?_ ?_
  · intro c r' hr t7 h7 tk7 H7
    subst hr
    unfold tokU at ht6
    simp only [List.length_cons] at hn hs hs2
    repeat' walk1
    rename_i h8 tk8 H8
    have L8 : LexP w a [] r' T h8 := H8.atO (j := 0) (d := lexD w a [] r' T) rfl
    refine r_wsA H8.gd L8 ?_; intro t9 tk9
    refine in_ws ?_
    by_cases hw : isWs c = true
    · rw [hw] at ht6 ⊢
      rw [if_pos rfl] at ht6
      repeat' walk1
      obtain ⟨rfl, rfl⟩ := Prod.mk.inj (Option.some.inj ht6)
      exact q _ _ _ (H8.sub (List.nil_sublist _))
    · rw [Bool.not_eq_true] at hw
      rw [hw] at ht6 ⊢
      rw [if_neg Bool.false_ne_true] at ht6
      repeat' walk1
      · rename_i hb
        have hb : c = 92 := by rw [chS_bs] at hb; exact chS_eq.mp (eq_of_beq hb)
        rw [if_pos hb] at ht6
        cases r' with
        | nil => cases ht6
        | cons c2 r2 =>
          simp only [List.length_cons] at hn hs hs2
          dsimp only at ht6
          refine r_lmethod (f := 35) H8.gd L8 (by rfl) (by rfl) (by intros; rfl) ?_
          refine callWith_K0 (K := KK w) H8.gd.frag (by rfl) ?_
          refine wpAny_call (rc_call (H8.calleeO (j := 0) rfl) (by omega) (by omega) (by simp; omega) hT ?_); intro h9 tk9 t9 H9
          have H10 := H8.backO (j := 0) rfl (by rfl) H9
          simp only [List.set_cons_zero, List.tail_cons] at H10
          dsimp only [hdS]
          repeat' walk1
          refine r_iaddS (by rw [stS_len, chS_len]; simp [sizeLine]; omega) ?_; intro t11 tk11
          rw [stS_app]
          repeat' walk1
          exact Nx.mk (by omega) ⟨r2, _, acc ++ [c2], _, rfl, by assumption, by exact e1, by rfl, by exact e3, by omega, by simp; omega, ht6⟩
      · rename_i hb
        have hb : ¬ c = 92 := fun e => by rw [e, ← chS_bs] at hb; simp at hb
        rw [if_neg hb] at ht6
        refine r_iaddS (by rw [stS_len, chS_len]; simp [sizeLine]; omega) ?_; intro t11 tk11
        rw [stS_app]
        repeat' walk1
        exact Nx.mk (by omega) ⟨r', _, acc ++ [c], _, rfl, by assumption, by exact e1, by rfl, by exact e3, by omega, by simp; omega, ht6⟩
  · intro hr h7 tk7 H7
    subst hr
    unfold tokU at ht6
    cases ht6
set_option maxRecDepth 100000 in
set_option maxHeartbeats 8000000 in
theorem gt_call {w : World} {A : Around} {h : Heap} {gs : Array GenState} {dr : Drawn} {tk : Nat} {os : OsState} {R : Result → Shared → Prop} {a : LA} {rest rest' : List Nat} {wd : List Nat} {T : Int}
    (H : Led (KK w) h h [lexD w a [] rest T] []) (hd : A.depth < 700) (hu : A.units < 700) (hA : A.handled = none) (hsz : rest.length < 5000) (hT : 0 ≤ T ∧ T < 100000) (ht : tok rest = some (wd, rest'))
    (k : ∀ h' tk' t, Led (KK w) h h' [lexD w a [] rest' T] [] → R (.ok (.ret (.str (stS wd) t))) ⟨h', gs, dr, tk', os⟩) :
    codeAny (model PG w) A (.call (.ref 42) ⟨[.ref a.x], []⟩) R ⟨h, gs, dr, tk, os⟩ := by
  refine r_enter (lv := [(("self" : Str), .ref a.x)]) H (Nat.lt_of_lt_of_le hd (by decide)) rfl rfl rfl rfl rfl rfl rfl rfl rfl rfl ?_
  intro E' L h₁ tk₁ H1
  have L1 : LexP w a [] rest T h₁ := H1.atO (j := 0) (d := lexD w a [] rest T) rfl
  obtain ⟨vs, hpb, hpp⟩ := L1.pb
  cases hpp
  repeat' walk1
  refine r_pbA H1.gd L1 ?_; intro tk2
  refine r_truL hpb.isList (by simp) ?_; intro tk3
  repeat' walk1
  refine r_rcM (K' := KK w) (by assumption) ?_; intro m h3 tk3 H3
  simp only [List.cons_append, List.nil_append] at H3
  repeat' walk1
  refine r_iterC (j := 1) H3 (by rfl) ?_; intro it h4 tk4 H4
  simp only [List.cons_append, List.nil_append] at H4
  repeat' walk1
  refine r_for (by intro _; rfl) ?_
  repeat' walk1
  rename_i h5 tk5 H5
  obtain ⟨tt, hit5⟩ : ∃ t, h5.get? it = some (ciObj (.ref m) (.str "" t)) := H5.at (j := 2) (d := citD it m) rfl
  refine ci_iter hit5 ?_
  clear H4 H3 H1 L1 hpb hit5
  refine ⟨fun n h' => ∃ r lv t0, n = r.length + 1 ∧ Led (KK w) h h' [lexD w a [] r T] [nsD L lv, objD m (methodObj (.ref 35) (.ref a.x)), citD it m] ∧ lv.lookup ("self" : Str) = some (.ref a.x) ∧ lv.lookup ("token" : Str) = some (.str "" t0) ∧
    lv.lookup ("fiter" : Str) = some (.ref it) ∧ r.length < 5000 ∧ tok r = some (wd, rest'), rest.length + 1, _, _, rfl, ⟨rest, _, _, rfl, H5, rfl, rfl, rfl, hsz, ht⟩, by intro _; rfl, ?_⟩
  intro E2 n h6 tk6 ⟨r, lv, t0, hn, H6, e1, e2, e3, hs, ht6⟩
  clear H5
  have hdd : (A.deeper (callEnv (default : FuncData) L 42)).depth < 800 := by rw [deeper_depth']; omega
  refine r_nextC (j := 2) (j2 := 1) H6 (by rfl) (by rfl) (by rw [deeper_depth']; omega) (by rw [deeper_units']; omega) hA hs hT ?_ ?_
  · intro c r' hr t7 h7 tk7 H7
    subst hr
    repeat' walk1
    rename_i h8 tk8 H8
    have L8 : LexP w a [] r' T h8 := H8.atO (j := 0) (d := lexD w a [] r' T) rfl
    refine r_wsA H8.gd L8 ?_; intro t9 tk9
    refine in_ws ?_
    unfold tok at ht6
    by_cases hw : isWs c = true
    · rw [hw] at ht6 ⊢
      rw [if_pos rfl] at ht6
      repeat' walk1
      exact Nx.mk (by simp at hn ⊢; omega) ⟨r', _, _, rfl, by assumption, by exact e1, by exact e2, by exact e3, by simp at hs; omega, ht6⟩
    · rw [Bool.not_eq_true] at hw
      rw [hw] at ht6 ⊢
      rw [if_neg Bool.false_ne_true] at ht6
      repeat' walk1
      · rename_i hc
        have hc : c = 34 := by rw [chS_q] at hc; exact chS_eq.mp (eq_of_beq hc)
        rw [if_pos hc] at ht6
        simp only [List.length_cons] at hs
        refine qLoop (acc := []) rfl rfl (by rw [deeper_depth']; omega) (by rw [deeper_units']; omega) hA hT H8 (by exact e1) (by exact e2) (by exact e3) (by omega) (by simp; omega) ht6 ?_
        intro t10 h10 tk10 H10
        exact k _ _ _ H10
      · rename_i hc _ _ hb
        have hc : ¬ c = 34 := fun e => by rw [e, ← chS_q] at hc; simp at hc
        have hb : c = 92 := by rw [chS_bs] at hb; exact chS_eq.mp (eq_of_beq hb)
        rw [if_neg hc, if_pos hb] at ht6
        cases r' with
        | nil => cases ht6
        | cons c2 r2 =>
          simp only [List.length_cons] at hs
          dsimp only at ht6
          refine r_lmethod (f := 35) H8.gd L8 (by rfl) (by rfl) (by intros; rfl) ?_
          refine callWith_K0 (K := KK w) H8.gd.frag (by rfl) ?_
          refine wpAny_call (rc_call (H8.calleeO (j := 0) rfl) (by rw [deeper_depth']; omega) (by rw [deeper_units']; omega) (by simp; omega) hT ?_); intro h9 tk9 t9 H9
          have H10 := H8.backO (j := 0) rfl (by rfl) H9
          simp only [List.set_cons_zero, List.tail_cons] at H10
          dsimp only [hdS]
          repeat' walk1
          refine r_iaddS (by rw [chS_len]; decide) ?_; intro t11 tk11
          rw [show ("" : Str) ++ chS c2 = stS [c2] from stS_app [] c2]
          repeat' walk1
          rename_i h12 tk12 H12
          refine uLoop (acc := [c2]) rfl rfl (by rw [deeper_depth']; omega) (by rw [deeper_units']; omega) hA hT H12 (by exact e1) (by rfl) (by exact e3) (by omega) (by simp; omega) ht6 ?_
          intro t10 h10 tk10 H10
          exact k _ _ _ H10
      · rename_i hc _ _ hb
        have hc : ¬ c = 34 := fun e => by rw [e, ← chS_q] at hc; simp at hc
        have hb : ¬ c = 92 := fun e => by rw [e, ← chS_bs] at hb; simp at hb
        rw [if_neg hc, if_neg hb] at ht6
        simp only [List.length_cons] at hs
        refine r_iaddS (by rw [chS_len]; decide) ?_; intro t11 tk11
        rw [show ("" : Str) ++ chS c = stS [c] from stS_app [] c]
        repeat' walk1
        rename_i h12 tk12 H12
        refine uLoop (acc := [c]) rfl rfl (by rw [deeper_depth']; omega) (by rw [deeper_units']; omega) hA hT H12 (by exact e1) (by rfl) (by exact e3) (by omega) (by simp; omega) ht6 ?_
        intro t10 h10 tk10 H10
        exact k _ _ _ H10
  · intro hr h7 tk7 H7
    subst hr
    unfold tok at ht6
    obtain ⟨rfl, rfl⟩ := Prod.mk.inj (Option.some.inj ht6)
    repeat' walk1
    exact k _ _ _ (H7.sub (List.nil_sublist _))
end Mine
end

section
open PySem PySem.W PySem.Calls PyProof.Rows
namespace Mine
local macro_rules | `(tactic| walk_at "eval Name") => `(tactic| (refine r_blt (by rfl) (by rfl) (by assumption) (by rfl) (by rfl) (by rfl) (by boot_by_name) (by decide) (by decide) ?_))
local macro_rules | `(tactic| walk_at "eval Name") => `(tactic| (refine r_glob (by rfl) (by rfl) (by assumption) (by rfl) (by rfl) (by decide) ?_))
local macro_rules | `(tactic| walk_at "eval Name") => `(tactic| (refine r_loc (by rfl) (by rfl) (by assumption) (by rfl) (by rfl) (by first | rfl | assumption) (by decide) ?_))
local macro_rules | `(tactic| walk_at "storeName") => `(tactic| (refine r_sto (by assumption) (by rfl) (by rfl) (by rfl) (by rfl) ?_; intro h' tk' H'; (try simp only [List.cons_append, List.nil_append, List.set_cons_zero, List.set_cons_succ] at H')))
local macro_rules | `(tactic| walk_at "newList") => `(tactic| (refine r_newList (by assumption) (by simp [sizeLine]) ?_; intro a' h' tk' H'; (try simp only [List.cons_append, List.nil_append, List.set_cons_zero, List.set_cons_succ] at H')))
local macro_rules | `(tactic| walk_at "eval Constant int") => `(tactic| (refine r_cint ?_; intro _ _))
local macro_rules | `(tactic| walk_at "eval Constant str") => `(tactic| (refine r_cstr ?_; intro _ _))
local macro_rules | `(tactic| walk_at "binaryOp Add int int") => `(tactic| (refine r_add ?_; intro _ _))
local macro_rules | `(tactic| walk_at "binaryOp Sub int int") => `(tactic| (refine r_sub ?_; intro _ _))
local macro_rules | `(tactic| walk_at "loadName") => `(tactic| (refine r_ldn (by rfl) (by rfl) (by assumption) (by rfl) (by rfl) (by first | rfl | assumption) ?_))

theorem Paired.cons_inv {α β : Type} {F : α → β → Prop} {b : β} {l₁ : List α} {l₂ : List β} (h : Paired F l₁ (b :: l₂)) : ∃ a l, l₁ = a :: l ∧ F a b ∧ Paired F l l₂ := by
  cases h with | cons h t => exact ⟨_, _, rfl, h, t⟩

theorem r_callB {prog : Program} {w : World} {A : Around} {E : Value → Shared → Prop} {env : Env} {id : String} {pos : Pos} {first : List Value} {e : PySem.Expr} {Q : Value → Shared → Prop} {s : Shared}
    (he : backTo pos (starEach [e] env) = [(false, eval e env)]) (hq : wpAny (model prog w) A (eval e env) (fun v s₁ => wpAny (model prog w) A (call (.builtin id) (first ++ [v])) Q E s₁) E s) :
    wpAny (model prog w) A (callWith pos (.builtin id) first (backTo pos (starEach [e] env)) []) Q E s := by
  rw [he]
  exact Calls.callWith_builtin rfl (Calls.evalArgs_plain (Calls.spliced_cons (wpAny_mono hq (fun y s₂ h₂ => Calls.spliced_nil h₂) fun _ _ e => e)))

theorem r_pop0 {prog : Program} {w : World} {A : Around} {E : Value → Shared → Prop} {h : Heap} {gs : Array GenState} {dr : Drawn} {tk : Nat} {os : OsState} {env : Env} {l : Addr} {vs : List Value} {v : Value} {pos : Pos} {e : PySem.Expr} {Q : Value → Shared → Prop}
    (he : backTo pos (starEach [e] env) = [(false, eval e env)])
    (hq : wpAny (model prog w) A (eval e env) (fun z s₁ => ∃ u h₁ tk₁, z = .int 0 u ∧ s₁ = ⟨h₁, gs, dr, tk₁, os⟩ ∧ h₁.PlainList l (v :: vs).toArray ∧ vs.length < 10000 ∧ ∀ h', h'.PlainList l vs.toArray → Heap.SameBut l h₁ h' → Q v ⟨h', gs, dr, tk₁, os⟩) E ⟨h, gs, dr, tk, os⟩) :
    wpAny (model prog w) A (callWith pos (.builtin "list.pop") [.ref l] (backTo pos (starEach [e] env)) []) Q E ⟨h, gs, dr, tk, os⟩ := by
  rw [he]
  exact w_pop0 hq

set_option maxRecDepth 100000 in
set_option maxHeartbeats 8000000 in
theorem gp_call {w : World} {A : Around} {h : Heap} {gs : Array GenState} {dr : Drawn} {tk : Nat} {os : OsState} {R : Result → Shared → Prop} {a : LA} {rest : List Nat} {y : Str} {ys : List Str} {T : Int}
    (H : Led (KK w) h h [lexD w a (y :: ys) rest T] []) (hd : A.depth < 700) (hu : A.units < 700) (hsz : ys.length < 5000)
    (k : ∀ h' tk' t, Led (KK w) h h' [lexD w a ys rest T] [] → R (.ok (.ret (.str y t))) ⟨h', gs, dr, tk', os⟩) :
    codeAny (model PG w) A (.call (.ref 42) ⟨[.ref a.x], []⟩) R ⟨h, gs, dr, tk, os⟩ := by
  refine r_enter (lv := [(("self" : Str), .ref a.x)]) H (Nat.lt_of_lt_of_le hd (by decide)) rfl rfl rfl rfl rfl rfl rfl rfl rfl rfl ?_
  intro E' L h₁ tk₁ H1
  have L1 : LexP w a (y :: ys) rest T h₁ := H1.atO (j := 0) (d := lexD w a (y :: ys) rest T) rfl
  obtain ⟨vs0, hpb, hpp⟩ := L1.pb
  obtain ⟨v, vs, rfl, ⟨t, rfl⟩, hp⟩ := Paired.cons_inv hpp
  have hlen := hp.length
  repeat' walk1
  refine r_pbA H1.gd L1 ?_; intro tk2
  refine r_truL hpb.isList (by simp; omega) ?_; intro tk3
  rw [if_pos (by rfl)]
  repeat' walk1
  refine r_pbA H1.gd L1 ?_; intro tk4
  refine r_lmeth hpb PySem.F.slot_list_pop PySem.F.type_list_pop ?_
  refine r_pop0 (v := .str y t) (vs := vs) (by rfl) ?_
  walk1
  refine ⟨_, _, _, rfl, rfl, hpb, by omega, ?_⟩
  intro h5 hl5 hs5
  have L5 : LexP w a ys rest T h5 := L1.setPb (lex_nd H1) (fun b o hb e => hs5.extBut b o hb e) ⟨vs, hl5, hp⟩
  have H5 := H1.modO (j := 0) (d' := lexD w a ys rest T) rfl rfl (fun b o hb e => hs5.extBut b o (fun q => hb (by rw [q]; simp [lexD])) e) L5
  simp only [List.set_cons_zero] at H5
  exact k _ _ _ (H5.sub (List.nil_sublist _))

set_option maxRecDepth 100000 in
set_option maxHeartbeats 8000000 in
theorem pt_call {w : World} {A : Around} {h : Heap} {gs : Array GenState} {dr : Drawn} {tk : Nat} {os : OsState} {R : Result → Shared → Prop} {a : LA} {rest : List Nat} {y : Str} {t : Tok} {ys : List Str} {T : Int}
    (H : Led (KK w) h h [lexD w a ys rest T] []) (hd : A.depth < 700) (hu : A.units < 700) (hsz : ys.length < 5000)
    (k : ∀ h' tk', Led (KK w) h h' [lexD w a (ys ++ [y]) rest T] [] → R (.ok (.ret .none)) ⟨h', gs, dr, tk', os⟩) :
    codeAny (model PG w) A (.call (.ref 49) ⟨[.ref a.x, .str y t], []⟩) R ⟨h, gs, dr, tk, os⟩ := by
  refine r_enter (lv := [(("token" : Str), .str y t), (("self" : Str), .ref a.x)]) H (Nat.lt_of_lt_of_le hd (by decide)) rfl rfl rfl rfl rfl rfl rfl rfl rfl rfl ?_
  intro E' L h₁ tk₁ H1
  have L1 : LexP w a ys rest T h₁ := H1.atO (j := 0) (d := lexD w a ys rest T) rfl
  obtain ⟨vs, hpb, hp⟩ := L1.pb
  have hlen := hp.length
  repeat' walk1
  refine r_pbA H1.gd L1 ?_; intro tk2
  refine r_lmeth hpb PySem.F.slot_list_append PySem.F.type_list_append ?_
  refine r_callB (by rfl) ?_
  walk1
  refine w_app hpb (by omega) ?_; intro h5 hl5 hs5
  have L5 : LexP w a (ys ++ [y]) rest T h5 := L1.setPb (lex_nd H1) (fun b o hb e => hs5.extBut b o hb e) ⟨_, hl5, Paired.app hp (.cons ⟨t, rfl⟩ .nil)⟩
  have H5 := H1.modO (j := 0) (d' := lexD w a (ys ++ [y]) rest T) rfl rfl (fun b o hb e => hs5.extBut b o (fun q => hb (by rw [q]; simp [lexD])) e) L5
  simp only [List.set_cons_zero] at H5
  repeat' walk1
  exact k _ _ (H5.sub (List.nil_sublist _))
end Mine
end

section
open PySem PySem.W PySem.Calls PyProof.Rows Builtin Builtin.ObjectAttr
namespace Mine
theorem slot_fn_sa : Slot "function" "__setattr__" "object.__setattr__" :=
  .of (owner := "object") (n := "__setattr__") (by rw [typeLookup_type, builtinLookup_eq_fast]; kernel_rfl) (by decide +kernel) (by decide +kernel) (by decide +kernel)
    (by first | exact .inl (by decide +kernel) | exact .inr (by decide +kernel)) (by rw [isSubtype_type]; kernel_rfl)
theorem fn_mro : mroOf (.type "function") = pure [.type "function", .type "object"] := by kernel_rfl
theorem fn_pass (self : Value) : refuseLoop self "__setattr__" [.type "function", .type "object"] = pure () := by kernel_rfl

section
variable {prog : Program} {w : World} {A : Around} {E : Value → Shared → Prop} {h : Heap} {gs : Array GenState} {dr : Drawn} {tk : Nat} {os : OsState}
/-- the first attribute that a function is given -/
theorem r_fset {f : Addr} {fda : FuncData} {name : Str} {v : Value} {Q : Unit → Shared → Prop}
    (hf : h.get? f = some { cls := .type "function", data := .func fda }) (hr : typeLookup (.type "function") name = pure none)
    (q : ∀ d t h' tk', h.get? d = none → h'.get? d = some (dictOf [⟨PyData.keyHash w.params name, .str name t, v⟩] 1) → h'.get? f = some { cls := .type "function", dict := some d, data := .func fda } →
      (∀ b o, b ≠ f → h.get? b = some o → h'.get? b = some o) → Q () ⟨h', gs, dr, tk', os⟩) :
    wpAny (model prog w) A (setAttr (.ref f) name v) Q E ⟨h, gs, dr, tk, os⟩ := by
  have hT : (⟨h, gs, dr, tk + 1, os⟩ : Shared).TypeIs (.ref f) "function" := ⟨_, hf, rfl⟩
  have T0 : Looks (model prog w) h (typeOf (.ref f)) (.type "function") := (Looks.ld hf).andThen .now
  unfold setAttr
  refine wpAny_bind (wpAny_mkText (wpAny_bind (wpAny_callSpecial?_slot (name := Str.ofString "__setattr__") hT slot_fn_sa (wpAny_call_entry slot_fn_sa hT PySem.F.store_object.entry ?_ (PySem.F.store_object.args _ _ _)))))
  rw [osa_eq, refuse_eq]
  refine wpAny_bind (wpAny_bind (T0.here (wpAny_bind ((Looks.of_pure fn_mro).here ?_))))
  rw [fn_pass]
  refine wpAny_pure (wpAny_bind (T0.here (wpAny_bind ((Looks.of_pure hr).here (wpAny_bind (wpAny_pure ?_))))))
  show wpAny _ _ (storeInOwnDict (.ref f) (.type "function") (.str name tk) name v false) _ _ _
  unfold storeInOwnDict
  refine wpAny_bind (wpAny_of_eq (a := ()) (by kernel_rfl) ?_)
  refine wpAny_bind ?_
  unfold ownDictForStores instanceDict
  refine wpAny_bind (wpAny_loadPart hf ?_)
  show wpAny _ _ (alloc { cls := .type "dict", data := .dict #[] } >>= fun d => update f (fun o => { o with dict := some d }) >>= fun _ => dictMade (.type "function") f d) _ _ _
  refine wpAny_bind (wpAny_alloc (wpAny_bind ?_))
  have hf1 : (h.push { cls := .type "dict", data := .dict #[] }).get? f = some { cls := .type "function", data := .func fda } := Heap.get?_push_of_some _ hf
  refine wpAny_update hf1 ?_
  refine wpAny_of_eq (a := some h.objs.size) (by kernel_rfl) ?_
  dsimp only
  generalize hg : (h.push { cls := .type "dict", data := .dict #[] }).update f (fun o => { o with dict := some h.objs.size }) = h2
  have hne : f ≠ h.objs.size := Nat.ne_of_lt (Heap.lt_size hf)
  have hf2 : h2.get? f = some { cls := .type "function", dict := some h.objs.size, data := .func fda } := by rw [← hg]; exact Heap.get?_update_self _ hf1 rfl
  have hd2 : h2.get? h.objs.size = some (dictOf [] 0) := by
    rw [← hg, Heap.get?_update_other _ _ hne]; exact Heap.get?_push_size _ rfl
  have hk2 : ∀ b o, b ≠ f → h.get? b = some o → h2.get? b = some o := fun b o hb e => by
    rw [← hg, Heap.get?_update_other _ _ (Ne.symm hb)]; exact Heap.get?_push_of_some _ e
  have pn : Obj.putName name (PyData.keyHash w.params name) (.str name (tk + 1)) v (dictOf [] 0) = dictOf [⟨PyData.keyHash w.params name, .str name (tk + 1), v⟩] 1 := by rw [putName_dict]; rfl
  have D' : (h2.update h.objs.size (Obj.putName name (PyData.keyHash w.params name) (.str name (tk + 1)) v)).get? h.objs.size = some (dictOf [⟨PyData.keyHash w.params name, .str name (tk + 1), v⟩] 1) := by
    rw [← pn]; exact Heap.get?_update_self _ hd2 (by rw [pn]; rfl)
  unfold storeInDict
  refine wpAny_bind (wpAny_pure (wpAny_bind ?_))
  unfold nsSet
  refine wpAny_bind (wpAny_bind (wpAny_askSetting (wpAny_pure (wpAny_bind (wpAny_mkText (wpAny_bind (wpAny_loadPart hd2 ?_)))))))
  dsimp only [dictOf]
  rw [aRefKeyMayBeTheName_at, List.any_toArray, List.any_toArray, List.any_nil, List.any_nil, Bool.and_false]
  refine wpAny_updatePart hd2 ?_
  refine wpAny_bind (wpAny_lookBehind D' (pastItsLine_dict (by rw [List.size_toArray, sizeLine_eq]; simp)) ?_)
  refine wpAny_pure ⟨_, rfl, wpAny_pure ?_⟩
  refine q h.objs.size (tk + 1) _ _ (none_size h) D' ?_ (fun b o hb e => ?_)
  · rw [Heap.get?_update_other _ _ (Ne.symm hne)]; exact hf2
  · rw [Heap.get?_update_other _ _ (Ne.symm (Nat.ne_of_lt (Heap.lt_size e)))]; exact hk2 b o hb e
end
end Mine
end

section
open PySem PySem.W PySem.Calls PyProof.Rows
namespace Mine
local macro_rules | `(tactic| walk_at "eval Name") => `(tactic| (refine r_blt (by rfl) (by rfl) (by assumption) (by rfl) (by rfl) (by rfl) (by boot_by_name) (by decide) (by decide) ?_))
local macro_rules | `(tactic| walk_at "eval Name") => `(tactic| (refine r_glob (by rfl) (by rfl) (by assumption) (by rfl) (by rfl) (by decide) ?_))
local macro_rules | `(tactic| walk_at "eval Name") => `(tactic| (refine r_loc (by rfl) (by rfl) (by assumption) (by rfl) (by rfl) (by first | rfl | assumption) (by decide) ?_))
local macro_rules | `(tactic| walk_at "storeName") => `(tactic| (refine r_sto (by assumption) (by rfl) (by rfl) (by rfl) (by rfl) ?_; intro h' tk' H'; (try simp only [List.cons_append, List.nil_append, List.set_cons_zero, List.set_cons_succ] at H')))
local macro_rules | `(tactic| walk_at "newList") => `(tactic| (refine r_newList (by assumption) (by simp [sizeLine]) ?_; intro a' h' tk' H'; (try simp only [List.cons_append, List.nil_append, List.set_cons_zero, List.set_cons_succ] at H')))
local macro_rules | `(tactic| walk_at "eval Constant int") => `(tactic| (refine r_cint ?_; intro _ _))
local macro_rules | `(tactic| walk_at "eval Constant str") => `(tactic| (refine r_cstr ?_; intro _ _))
local macro_rules | `(tactic| walk_at "binaryOp Add int int") => `(tactic| (refine r_add ?_; intro _ _))
local macro_rules | `(tactic| walk_at "binaryOp Sub int int") => `(tactic| (refine r_sub ?_; intro _ _))
local macro_rules | `(tactic| walk_at "loadName") => `(tactic| (refine r_ldn (by rfl) (by rfl) (by assumption) (by rfl) (by rfl) (by first | rfl | assumption) ?_))
local macro_rules | `(tactic| walk_at "exec Assign") => `(tactic| (with_reducible refine plainObj_wpAny_Assign_Attribute ?_ (by with_unfolding_all rfl)))

theorem Led.modObj {K : Frag} {g h h' : Heap} {dx : Addr} {o o' : Obj} {O N : List HD} (H : Led K g h (objD dx o :: O) N) (hs : Heap.SameBut dx h h') (hd : h'.get? dx = some o') : Led K g h' (objD dx o' :: O) N := by
  have := H.modO (j := 0) (d := objD dx o) (d' := objD dx o') rfl rfl (sameBut_e hs) hd
  simpa using this

set_option maxRecDepth 100000 in
set_option maxHeartbeats 8000000 in
theorem in_call {w : World} {A : Around} {h : Heap} {gs : Array GenState} {dr : Drawn} {tk : Nat} {os : OsState} {R : Result → Shared → Prop} {x dx st : Addr}
    (H : Led (KK w) h h [objD dx (dictOf [] 0)] []) (hx : h.get? x = some (instObj 52 dx)) (hxd : x ≠ dx) (hd : A.depth < 700)
    (k : ∀ h' tk' t1 t2 t3 t4 t5 t6 n pb, Led (KK w) h h' [objD dx (dictOf (lexEs w ⟨x, dx, st, 0, 0, 0, 0, 0, pb⟩ 1 t1 t2 t3 t4 t5 t6) n)] [plainD pb []] → R (.ok (.ret .none)) ⟨h', gs, dr, tk', os⟩) :
    codeAny (model PG w) A (.call (.ref 28) ⟨[.ref x, .ref st], []⟩) R ⟨h, gs, dr, tk, os⟩ := by
  refine r_enter (lv := [(("fp" : Str), .ref st), (("self" : Str), .ref x)]) H (Nat.lt_of_lt_of_le hd (by decide)) rfl rfl rfl rfl rfl rfl rfl rfl rfl rfl ?_
  intro E' L h₁ tk₁ H1
  have hX : ∀ {h' : Heap} {es : List DictEntry} {n : Nat} {N : List HD}, Led (KK w) h h' [objD dx (dictOf es n)] N → h'.get? x = some (instObj 52 dx) := fun H' => H'.keep _ _ hx (by simpa [objD] using hxd)
  have hD : ∀ {h' : Heap} {es : List DictEntry} {n : Nat} {N : List HD}, Led (KK w) h h' [objD dx (dictOf es n)] N → h'.get? dx = some (dictOf es n) := fun H' => H'.atO (j := 0) rfl
  repeat' walk1
  refine r_setattr (es' := fun t => [⟨PyData.keyHash w.params "lineno", .str "lineno" t, _⟩]) (n' := 1) H1.gd.frag (hX H1) (hD H1) (by rfl) (by rfl) (by rfl) (by rfl) (by rfl) (by intro _; simp) (by intro _; rfl) ?_
  intro t1 h2 tk2 hd2 hs2
  have H2 := H1.modObj hs2 hd2
  repeat' walk1
  refine r_setattr (es' := fun t => [⟨PyData.keyHash w.params "lineno", .str "lineno" t1, _⟩, ⟨PyData.keyHash w.params "instream", .str "instream" t, .ref st⟩]) (n' := 2) H2.gd.frag (hX H2) (hD H2) (by rfl) (by rfl) (by rfl) (by rfl) (by rfl) (by intro _; simp) (by intro _; rfl) ?_
  intro t3 h3 tk3 hd3 hs3
  have H3 := H2.modObj hs3 hd3
  repeat' walk1
  refine r_setattr (es' := fun t => [⟨PyData.keyHash w.params "lineno", .str "lineno" t1, _⟩, ⟨PyData.keyHash w.params "instream", .str "instream" t3, .ref st⟩, ⟨PyData.keyHash w.params "whitespace", .str "whitespace" t, _⟩]) (n' := 3) H3.gd.frag (hX H3) (hD H3) (by rfl) (by rfl) (by rfl) (by rfl) (by rfl) (by intro _; simp) (by intro _; rfl) ?_
  intro t4 h4 tk4 hd4 hs4
  have H4 := H3.modObj hs4 hd4
  repeat' walk1
  rename_i pb h5 tk5 H5
  refine r_setattr (es' := fun t => [⟨PyData.keyHash w.params "lineno", .str "lineno" t1, _⟩, ⟨PyData.keyHash w.params "instream", .str "instream" t3, .ref st⟩, ⟨PyData.keyHash w.params "whitespace", .str "whitespace" t4, _⟩, ⟨PyData.keyHash w.params "pushback", .str "pushback" t, .ref pb⟩]) (n' := 4) H5.gd.frag (hX H5) (hD H5) (by rfl) (by rfl) (by rfl) (by rfl) (by rfl) (by intro _; simp) (by intro _; rfl) ?_
  intro t6 h6 tk6 hd6 hs6
  have H6 := H5.modObj hs6 hd6
  repeat' walk1
  exact k _ _ t1 _ t3 t4 _ t6 _ pb (H6.sub (by simp))
end Mine
end

section
open PySem PySem.W PySem.Calls PyProof.Rows
namespace Mine
section
variable {prog : Program} {w : World} {A : Around} {E : Value → Shared → Prop} {K : Frag} {g h : Heap} {O N : List HD} {gs : Array GenState} {dr : Drawn} {tk : Nat} {os : OsState} {env : Env}

/-- enter a def with one cell -/
theorem r_enterC {R : Result → Shared → Prop} {f : Addr} {oc : Value} {od : Option Addr} {sl : Array (Option Value)} {fd : FuncData} {body : List Stmt} {args : List Value} {binds lv : List (Str × Value)} {x : Str}
    (H : Led K h h O []) (hroom : A.depth < recursionLimit) (ho : K.lookup f = some ⟨oc, od, .func fd, sl⟩) (hcd : codeIn K fd.code fd.qualname = true) (hbody : fd.body = .stmts body)
    (hbind : bindArgs fd ⟨args, []⟩ = pure binds) (hclo : fd.closure = []) (hcs : ∀ L, cellsFrom L fd.scope.names [] = [(x, L)]) (hloc : (binds.all fun x => decide (fd.scope.names.lookup x.1 = some .local)) = true)
    (hbl : ∀ L, bindL (callEnvC fd L f).kindOf binds (fun _ => none) = fun y => lv.lookup y) (hbc : ∀ L, bindC (callEnvC fd L f).kindOf binds (fun _ => none) x = none)
    (hco : fd.scope.isCoroutine = false) (hgen : fd.scope.isGenerator = false) (hk : fd.scope.kind = .function)
    (q : ∀ (E' : Value → Shared → Prop) L h₁ tk₁, Led K h h₁ O [nsD L lv, cellD (L + 1) none] → wpAny (model prog w) (A.deeper (callEnvC fd L f)) (execs body (callEnvC fd L f)) (fun fl s' => R (.ok (.ret (match fl with | .ret v => v | _ => .none))) s') E' ⟨h₁, gs, dr, tk₁, os⟩) :
    codeAny (model prog w) A (.call (.ref f) ⟨args, []⟩) R ⟨h, gs, dr, tk, os⟩ := by
  refine codeAny_call_cells (s := ⟨h, gs, dr, tk, os⟩) hroom (H.gd.frag f _ ho) rfl H.gd.nl (codeRec_of H.gd.frag hcd) hbody hbind hclo (fun y hy => .inl (by simpa using List.all_eq_true.mp hloc y hy)) (fun s₁ I => ?_) hco hgen hk
  obtain ⟨h', tk', rfl, hkp⟩ := I.done
  have hns : h'.Ns h.objs.size (fun y => lv.lookup y) := by have := I.toInCall.ns; rw [hbl] at this; exact this
  have hce : h'.IsCell (h.objs.size + 1) none := by
    have := I.cell x (h.objs.size + 1) (by show (cellsFrom (h.objs.size + 1) fd.scope.names []).lookup x = _; rw [hcs]; simp)
    rw [hbc] at this; exact this
  refine q _ h.objs.size h' tk' ?_
  refine (H.adds (D := [nsD h.objs.size lv, cellD (h.objs.size + 1) none]) (H.ext hkp) rfl (fun d hd => ?_) (fun d hd a ha => ?_) ?_)
  · simp only [List.mem_cons, List.not_mem_nil, or_false] at hd
    rcases hd with rfl | rfl
    · exact hns
    · exact hce
  · simp only [List.mem_cons, List.not_mem_nil, or_false] at hd
    rcases hd with rfl | rfl
    · cases List.mem_singleton.mp ha; exact none_size h
    · cases List.mem_singleton.mp ha; exact Heap.get?_none_of_le (Nat.le_succ _)
  · simp [nsD, cellD]

/-- what a code object holds of its name -/
def codeD (c : Addr) (qual : Str) : HD where
  fp := [c]
  P h := ∃ oc vs t, h.get? c = some oc ∧ oc.data = .fields vs ∧ vs[1]? = some (.str qual t)
  st h h' e p := let ⟨oc, vs, t, ho, r⟩ := p; ⟨oc, vs, t, e c (.head _) _ ho, r⟩
  al h p b hb := by cases hb with | head => (obtain ⟨_, _, _, ho, _⟩ := p; exact ⟨_, ho⟩) | tail _ q => cases q

/-- a lambda is made -/
theorem r_lam {params : Arguments} {body : PySem.Expr} {scope : Scope} {pos : Pos} {c P : Addr} {ps : Array Value} {clos : List (Str × Addr)} {Q : Value → Shared → Prop} (H : Led K g h (objD P (tabObj ps) :: O) N) (hdef : defaultsOf params env = ([], []))
    (hcl : closureFor scope env = pure clos) (hge : env.globals = mainGlobals) (hbm : ∃ mg, h.Ns mainGlobals mg ∧ h.BuiltinsAt mg P) (hgP : mainGlobals ≠ P) (hcode : env.code = .ref c) (C : CodeHd h c P) (ht : TriplesOk ps.toList) (hnf : codeAmong pos ps.toList = none)
    (q : ∀ c' f ctv pm h' tk', Led K g h' (objD P (tabObj (ps ++ #[rawInt pos.line, rawInt pos.col, .ref c'])) :: O) (N ++ [codeD c' (env.qual ++ "<lambda>"), objD f (kla_obj "<lambda>" (env.qual ++ "<lambda>") params body scope clos pm c' ctv)]) →
      (∃ mg, h'.Ns mainGlobals mg ∧ h'.BuiltinsAt mg P) → CodeHd h' c P → Q (.ref f) ⟨h', gs, dr, tk', os⟩) :
    wpAny (model prog w) A (eval (.Lambda params body scope pos) env) Q E ⟨h, gs, dr, tk, os⟩ := by
  obtain ⟨mg, hg, hb⟩ := hbm
  have hP : h.get? P = some (tabObj ps) := H.atO (j := 0) (d := objD P (tabObj ps)) rfl
  refine kla_eval hdef (kla_makeFunction (s := ⟨h, gs, dr, tk, os⟩) hcl hge hg hcode C hP ht hnf hgP hb fun c' ctv h' tk' hx hge' hlt hrec htb => ?_)
  have e1 : ∀ b o, b ∉ [P] → h.get? b = some o → (h'.push (kla_obj "<lambda>" (env.qual ++ "<lambda>") params body scope clos ((mg "__name__").getD .none) c' ctv)).get? b = some o := fun b o hb e => Heap.get?_push_of_some _ (hx b o (by simpa using hb) e)
  have H1 := H.modO (j := 0) (d := objD P (tabObj ps)) (d' := objD P (tabObj (ps ++ #[rawInt pos.line, rawInt pos.col, .ref c']))) rfl rfl e1 (Heap.get?_push_of_some _ htb)
  simp only [List.set_cons_zero] at H1
  have hsz : h.objs.size ≤ h'.objs.size := Nat.le_of_lt (Nat.lt_of_le_of_lt hge' hlt)
  refine q c' h'.objs.size ctv ((mg "__name__").getD .none) _ _ (H.adds (D := [codeD c' (env.qual ++ "<lambda>"), objD h'.objs.size (kla_obj "<lambda>" (env.qual ++ "<lambda>") params body scope clos ((mg "__name__").getD .none) c' ctv)]) H1 rfl (fun d hd => ?_) (fun d hd a ha => ?_) ?_) ?_ ?_
  · simp only [List.mem_cons, List.not_mem_nil, or_false] at hd
    rcases hd with rfl | rfl
    · obtain ⟨c2, oc, vs, t, e2, hoc, hd', hv⟩ := hrec
      cases e2
      exact ⟨oc, vs, t, Heap.get?_push_of_some _ hoc, hd', hv⟩
    · exact Heap.get?_push_size _ rfl
  · simp only [List.mem_cons, List.not_mem_nil, or_false] at hd
    rcases hd with rfl | rfl
    · cases List.mem_singleton.mp ha; exact Heap.get?_none_of_le hge'
    · cases List.mem_singleton.mp ha; exact Heap.get?_none_of_le hsz
  · show ([c', h'.objs.size] : List Nat).Nodup
    simp only [List.nodup_cons, List.mem_singleton, List.not_mem_nil, not_false_eq_true, List.nodup_nil, and_true]
    exact Nat.ne_of_lt hlt
  · obtain ⟨bm, ob, b1, b2, b3, b4, b5, b6⟩ := hb
    exact ⟨mg, hg.at (fun o ho => e1 _ o (by simpa using hgP) ho), bm, ob, b1, b2, b3, b4, e1 _ _ (by simpa using b4) b5, b6⟩
  · obtain ⟨o, vs, file, tf, flags, tg, inF, text, tt, e, f1, f2, f3, f4, f5, f6, f7, f8, f9⟩ := C
    exact ⟨o, vs, file, tf, flags, tg, inF, text, tt, e1 _ _ (by simpa using f9) e, f1, f2, f3, f4, f5, f6, f7, f8, f9⟩
end
end Mine
end

section
open PySem PySem.W PySem.Calls PyProof.Rows
namespace Mine
local macro_rules | `(tactic| walk_at "eval Name") => `(tactic| (refine r_blt (by rfl) (by rfl) (by assumption) (by rfl) (by rfl) (by rfl) (by boot_by_name) (by decide) (by decide) ?_))
local macro_rules | `(tactic| walk_at "eval Name") => `(tactic| (refine r_glob (by rfl) (by rfl) (by assumption) (by rfl) (by rfl) (by decide) ?_))
local macro_rules | `(tactic| walk_at "eval Name") => `(tactic| (refine r_loc (by rfl) (by rfl) (by assumption) (by rfl) (by rfl) (by first | rfl | assumption) (by decide) ?_))
local macro_rules | `(tactic| walk_at "storeName") => `(tactic| (refine r_sto (by assumption) (by rfl) (by rfl) (by rfl) (by rfl) ?_; intro h' tk' H'; (try simp only [List.cons_append, List.nil_append, List.set_cons_zero, List.set_cons_succ] at H')))
local macro_rules | `(tactic| walk_at "newList") => `(tactic| (refine r_newList (by assumption) (by simp [sizeLine]) ?_; intro a' h' tk' H'; (try simp only [List.cons_append, List.nil_append, List.set_cons_zero, List.set_cons_succ] at H')))
local macro_rules | `(tactic| walk_at "eval Constant int") => `(tactic| (refine r_cint ?_; intro _ _))
local macro_rules | `(tactic| walk_at "eval Constant str") => `(tactic| (refine r_cstr ?_; intro _ _))
local macro_rules | `(tactic| walk_at "binaryOp Add int int") => `(tactic| (refine r_add ?_; intro _ _))
local macro_rules | `(tactic| walk_at "binaryOp Sub int int") => `(tactic| (refine r_sub ?_; intro _ _))
local macro_rules | `(tactic| walk_at "loadName") => `(tactic| (refine r_ldn (by rfl) (by rfl) (by assumption) (by rfl) (by rfl) (by first | rfl | assumption) ?_))
local macro_rules | `(tactic| walk_at "exec Assign") => `(tactic| (with_reducible refine plainObj_wpAny_Assign_Attribute ?_ (by with_unfolding_all rfl)))

theorem Led.backNN {K : Frag} {g h h' : Heap} {O N D : List HD} {d d' : HD} (H : Led K g h O N) {j : Nat} (hj : N[j]? = some d) (hfp : d'.fp = d.fp) (H' : Led K h h' [d'] D) : Led K g h' O (N.set j d' ++ D) := by
  have H1 := H.mod hj hfp (fun b o hb e => H'.keep b o e (by simpa [hfp] using hb)) (H'.atO (j := 0) rfl)
  refine H.adds H1 (by rw [List.flatMap_append, List.flatMap_append, fps_set hj hfp]) (fun x hx => H'.all x (List.mem_append_right _ hx)) (fun x hx => H'.nw x hx) ?_
  have := H'.nd
  rw [List.flatMap_append] at this
  exact (List.nodup_append.mp this).2.1
theorem Led.backOO {K : Frag} {g h h' : Heap} {O N D : List HD} {d d' : HD} (H : Led K g h O N) {j : Nat} (hj : O[j]? = some d) (hfp : d'.fp = d.fp) (H' : Led K h h' [d'] D) : Led K g h' (O.set j d') (N ++ D) := by
  have H1 := H.modO hj hfp (fun b o hb e => H'.keep b o e (by simpa [hfp] using hb)) (H'.atO (j := 0) rfl)
  refine H.adds H1 (by rw [List.flatMap_append, List.flatMap_append, fps_set hj hfp]) (fun x hx => H'.all x (List.mem_append_right _ hx)) (fun x hx => H'.nw x hx) ?_
  have := H'.nd
  rw [List.flatMap_append] at this
  exact (List.nodup_append.mp this).2.1
theorem Led.regroup {K : Frag} {g h : Heap} {O N N' : List HD} (H : Led K g h O N) (hp : ∀ d ∈ N', d.P h) (hsub : ∀ a ∈ N'.flatMap HD.fp, a ∈ N.flatMap HD.fp) (hnd : (N'.flatMap HD.fp).Nodup) : Led K g h O N' := by
  have hm : ∀ x ∈ N', ∀ a ∈ x.fp, ∃ y ∈ N, a ∈ y.fp := fun x hx a ha => List.mem_flatMap.mp (hsub a (List.mem_flatMap.mpr ⟨x, hx, ha⟩))
  have hnd0 := H.nd
  rw [List.flatMap_append] at hnd0
  obtain ⟨n1, n2, n3⟩ := List.nodup_append.mp hnd0
  refine ⟨H.gd, fun x hx => ?_, ?_, fun x hx a ha => ?_, fun x hx a ha => ?_, H.keep⟩
  · rcases List.mem_append.mp hx with q | q
    · exact H.all x (List.mem_append_left _ q)
    · exact hp x q
  · rw [List.flatMap_append]
    exact List.nodup_append.mpr ⟨n1, hnd, fun a ha b hb => n3 a ha b (hsub b hb)⟩
  · obtain ⟨y, hy, hay⟩ := hm x hx a ha
    exact H.nw y hy a hay
  · rcases List.mem_append.mp hx with q | q
    · exact H.fr x (List.mem_append_left _ q) a ha
    · obtain ⟨y, hy, hay⟩ := hm x q a ha
      exact H.fr y (List.mem_append_right _ hy) a hay
theorem Paired.rev {α β : Type} {F : α → β → Prop} : ∀ {l₁ : List α} {l₂ : List β}, Paired F l₁ l₂ → Paired F l₁.reverse l₂.reverse
  | _, _, .nil => .nil
  | _, _, .cons h t => by rw [List.reverse_cons, List.reverse_cons]; exact Paired.app (Paired.rev t) (.cons h .nil)
theorem paired_of_get {α β : Type} {F : α → β → Prop} : ∀ {l₁ : List α} {l₂ : List β}, l₁.length = l₂.length → (∀ (i : Nat) x, l₁[i]? = some x → ∃ y, l₂[i]? = some y ∧ F x y) → Paired F l₁ l₂
  | [], [], _, _ => .nil
  | [], _ :: _, h, _ => by simp at h
  | _ :: _, [], h, _ => by simp at h
  | x :: l₁, y :: l₂, h, f => by
    refine .cons ?_ (paired_of_get (by simpa using h) fun i x hx => by simpa using f (i + 1) x (by simpa using hx))
    obtain ⟨y', h1, h2⟩ := f 0 x rfl
    simp at h1; subst h1; exact h2

section
variable {prog : Program} {w : World} {A : Around} {E : Value → Shared → Prop} {K : Frag} {g h : Heap} {O N : List HD} {gs : Array GenState} {dr : Drawn} {tk : Nat} {os : OsState}
/-- list(text) -/
theorem r_listS {cs : List Nat} {t : Tok} {Q : Value → Shared → Prop} (H : Led K g h O N) (hh : A.handled = none) (hsz : cs.length < 10000)
    (q : ∀ l h' tk', Led K g h' O (N ++ [strsD l (cs.map chS)]) → Q (.ref l) ⟨h', gs, dr, tk', os⟩) : wpAny (model prog w) A (call (.type "list") [.str (stS cs) t]) Q E ⟨h, gs, dr, tk, os⟩ := by
  refine call_list_str (s := ⟨h, gs, dr, tk, os⟩) hh (stS cs) t (hn := by simp [stS, sizeLine]; omega) fun h' tk' acc c' hk hS hacc => q _ _ _ ?_
  refine H.new hk ⟨acc.toList, ⟨c', by simpa using hS⟩, paired_of_get ?_ ?_⟩ (by intro a ha; cases List.mem_singleton.mp ha; exact none_size h) (by simp [strsD])
  · have := hacc.1; simp [stS] at this; simpa using this
  · intro i v hv
    obtain ⟨c, u, hc, rfl⟩ := hacc.2 i v (by simpa using hv)
    have : cs[i]? = some c := by simpa [stS] using hc
    exact ⟨chS c, by rw [List.getElem?_map, this]; rfl, u, rfl⟩
/-- xs.reverse() -/
theorem r_rev {l : Addr} {xs : List Str} {j : Nat} {pos : Pos} {Q : Value → Shared → Prop} (H : Led K g h O N) (hj : N[j]? = some (strsD l xs)) (hsz : xs.length < 10000)
    (q : ∀ h' tk', Led K g h' O (N.set j (strsD l xs.reverse)) → Q .none ⟨h', gs, dr, tk', os⟩) : wpAny (model prog w) A (callWith pos (.builtin "list.reverse") [.ref l] [] []) Q E ⟨h, gs, dr, tk, os⟩ := by
  obtain ⟨vs, hl, hp⟩ := H.at hj
  have u := plain_upd hl (fun xs => xs.reverse)
  have hlen := hp.length
  obtain ⟨n, hl⟩ := hl
  refine PySem.P.reverse_list hl (q _ _ (H.mod hj rfl (sameBut_e (Heap.SameBut.update ..)) ⟨vs.reverse, by simpa using u, Paired.rev hp⟩)) (by simp [sizeLine]; omega)
end
theorem bindL_one {kf : Str → Option NameKind} {n : Str} {v : Value} (hk : kf n = some .local) : bindL kf [(n, v)] (fun _ => none) = fun y => [(n, v)].lookup y := by
  funext y
  show (if kf n = some .local then fun y => if y = n then some v else none else fun _ => none) y = _
  rw [if_pos hk]
  rw [List.lookup_cons]
  by_cases e : y = n
  · subst e; simp
  · rw [if_neg e, beq_eq_false_iff_ne.mpr e]; rfl

set_option maxRecDepth 100000 in
set_option maxHeartbeats 8000000 in
theorem lx_call {w : World} {A : Around} {h : Heap} {gs : Array GenState} {dr : Drawn} {tk : Nat} {os : OsState} {R : Result → Shared → Prop} {cs : List Nat} {t : Tok}
    (H : Led (KK w) h h [objD 75 (tabObj #[])] []) (hbm : ∃ mg, h.Ns mainGlobals mg ∧ h.BuiltinsAt mg 75) (hd : A.depth < 600) (hu : A.units < 600) (hA : A.handled = none) (hsz : cs.length < 5000)
    (k : ∀ a ps h' tk', Led (KK w) h h' [objD 75 (tabObj ps)] [lexD w a [] cs (1 + nls cs)] → R (.ok (.ret (.ref a.x))) ⟨h', gs, dr, tk', os⟩) :
    codeAny (model PG w) A (.call (.ref 80) ⟨[.str (stS cs) t], []⟩) R ⟨h, gs, dr, tk, os⟩ := by
  refine r_enterC (lv := [(("text" : Str), .str (stS cs) t)]) (x := "signs") H (Nat.lt_of_lt_of_le hd (by decide)) rfl rfl rfl rfl rfl (by intro _; rfl) rfl (by intro _; exact bindL_one (by rfl)) (by intro _; rfl) rfl rfl rfl ?_
  intro E' L h₁ tk₁ H1
  repeat' walk1
  refine r_listS H1 hA (by omega) ?_; intro sg h2 tk2 H2
  simp only [List.cons_append, List.nil_append] at H2
  refine r_stoC (j := 1) H2 (by rfl) (by rfl) (by rfl) (by rfl) ?_; intro h3 H3
  simp only [List.set_cons_zero, List.set_cons_succ] at H3
  clear H1 H2
  walk1
  walk1
  walk1
  refine r_cell (by rfl) (by rfl) (by rfl) (H3.at (j := 1) rfl) (by decide) ?_
  obtain ⟨vs3, hl3, hp3⟩ : ∃ vs : List Value, h3.PlainList sg vs.toArray ∧ Paired SV vs (cs.map chS) := H3.at (j := 2) (d := strsD sg (cs.map chS)) rfl
  refine r_lmeth hl3 PySem.F.slot_list_reverse PySem.F.type_list_reverse ?_
  refine r_rev (j := 2) H3 (by rfl) (by simp; omega) ?_; intro h4 tk4 H4
  simp only [List.set_cons_zero, List.set_cons_succ] at H4
  clear hl3 hp3 H3
  walk1
  walk1
  have hbF : ∀ {h' : Heap} {o : Obj} {N : List HD}, Led (KK w) h h' [objD 75 o] N → ∃ mg, h'.Ns mainGlobals mg ∧ h'.BuiltinsAt mg 75 := by
    intro h' o N H'
    obtain ⟨mg, hg, bm, ob, b1, b2, b3, b4, b5, b6⟩ := hbm
    exact ⟨mg, hg.at (fun o ho => H'.keep _ o ho (by simp [objD]; decide)), bm, ob, b1, b2, b3, b4, H'.keep _ _ b5 (by simpa [objD] using b4), b6⟩
  have hCF : ∀ {h' : Heap} {o : Obj} {N : List HD}, Led (KK w) h h' [objD 75 o] N → CodeHd h' 79 75 := fun H' => ⟨_, _, _, _, _, _, _, _, _, H'.gd.frag 79 _ rfl, rfl, rfl, rfl, rfl, rfl, rfl, rfl, rfl, by decide⟩
  refine r_lam H4 (by rfl) (by rfl) (by rfl) (hbF H4) (by decide) (by rfl) (hCF H4) (by trivial) (by rfl) ?_
  intro c1 st ctv1 pm1 h5 tk5 H5 _ _
  simp only [List.cons_append, List.nil_append] at H5
  clear H4
  repeat' walk1
  rename_i h6 tk6 H6
  refine r_lam H6 (by rfl) (by rfl) (by rfl) (hbF H6) (by decide) (by rfl) (hCF H6) (by exact trivial) (by rfl) ?_
  intro c2 rd ctv2 pm2 h7 tk7 H7 _ _
  simp only [List.cons_append, List.nil_append] at H7
  clear H5 H6
  walk1
  have hst : h7.get? st = some _ := H7.at (j := 4) rfl
  refine r_fset hst fn_read ?_
  intro sd ts h8 tk8 hsd8 hd8 hf8 hk8
  have H8a := H7.mod (j := 4) (d := objD st _) (d' := objD st _) (by rfl) (by rfl) (fun b o hb e => hk8 b o (by simpa [objD] using hb) e) hf8
  simp only [List.set_cons_zero, List.set_cons_succ] at H8a
  have H8 := H7.adds (D := [objD sd _]) H8a (by rfl) (by intro d hd; cases List.mem_singleton.mp hd; exact hd8) (by intro d hd a ha; cases List.mem_singleton.mp hd; cases List.mem_singleton.mp ha; exact hsd8) (by simp [objD])
  simp only [List.cons_append, List.nil_append] at H8
  clear H7 H8a hst hk8 hf8 hd8 hsd8
  walk1
  walk1
  walk1
  walk1
  refine callWith_K (K := KK w) H8.gd.frag (by rfl) ?_
  walk1
  walk1
  walk1
  refine ⟨H8.gd.frag, ?_⟩
  refine wpAny_call (make_core (makes_of H8.gd.frag (by rfl)) (looks_findIn H8.gd.frag (by rfl)) (fun self => bind_fn H8.gd.frag self (by rfl)) (.inl rfl) ?_)
  generalize hhh : (h8.push emptyDict).push (instObj 52 h8.objs.size) = hh
  have hx : hh.get? (h8.objs.size + 1) = some (instObj 52 h8.objs.size) := by rw [← hhh]; have := Heap.get?_push_size (h8.push emptyDict) (o := instObj 52 h8.objs.size) rfl; rwa [Heap.size_push] at this
  have hdx : hh.get? h8.objs.size = some (dictOf [] 0) := by rw [← hhh]; exact Heap.get?_push_of_some _ (Heap.get?_push_size _ rfl)
  have hkk : ∀ b o, h8.get? b = some o → hh.get? b = some o := fun b o e => by rw [← hhh]; exact Heap.get?_push_of_some _ (Heap.get?_push_of_some _ e)
  have H9 := H8.adds (D := [objD h8.objs.size (dictOf [] 0), objD (h8.objs.size + 1) (instObj 52 h8.objs.size)]) (H8.ext hkk) rfl (by intro d hd; simp only [List.mem_cons, List.not_mem_nil, or_false] at hd; rcases hd with rfl | rfl <;> assumption)
    (by intro d hd a ha; simp only [List.mem_cons, List.not_mem_nil, or_false] at hd; rcases hd with rfl | rfl <;> cases List.mem_singleton.mp ha; exact none_size h8; exact Heap.get?_none_of_le (Nat.le_succ _)) (by simp [objD])
  simp only [List.cons_append, List.nil_append] at H9
  refine in_call (st := st) (H9.calleeN (j := 8) (by rfl)) hx (Nat.succ_ne_self _) (by rw [depth_under_make, deeper_depth']; omega) ?_
  intro h10 tk10 t1 t2 t3 t4 t5 t6 n pb H10
  have H11 := H9.backNN (j := 8) (by rfl) (by rfl) H10
  simp only [List.set_cons_zero, List.set_cons_succ, List.cons_append, List.nil_append] at H11
  refine ⟨rfl, ?_⟩
  have hnd := H11.nd
  have g0 := H11.at (j := 1) rfl
  have g1 := H11.at (j := 2) rfl
  have g2 := H11.at (j := 4) rfl
  have g3 := H11.at (j := 5) rfl
  have g4 := H11.at (j := 6) rfl
  have g5 := H11.at (j := 7) rfl
  have g6 := H11.at (j := 8) rfl
  have g7 := H11.at (j := 9) rfl
  have g8 := H11.at (j := 10) rfl
  have LP : LexP w ⟨h8.objs.size + 1, h8.objs.size, st, sd, rd, c2, L + 1, sg, pb⟩ [] cs (1 + nls cs) h10 := by
    refine ⟨g7, ⟨t1, t2, t3, t4, t5, t6, n, ?_⟩, ⟨_, g2⟩, ⟨_, _, g5⟩, ⟨pm2, ctv2, _, g4, ?_⟩, g3, g0, ?_, ⟨[], g8, .nil⟩⟩
    · rw [show 1 + nls cs - nls cs = 1 by omega]; exact g6
    · intro p b s hl
      have := Option.some.inj (show some _ = some (p, b, s) from hl)
      cases this
      rfl
    · obtain ⟨vs, a, b⟩ := g1; exact ⟨vs, a, by rw [List.map_reverse]; exact b⟩
  exact k ⟨h8.objs.size + 1, h8.objs.size, st, sd, rd, c2, L + 1, sg, pb⟩ _ _ _ (H11.regroup (by intro d hd; cases List.mem_singleton.mp hd; exact LP) (by
    intro a ha
    simp only [List.flatMap_cons, List.flatMap_nil, List.append_nil, lexD, nsD, cellD, strsD, codeD, objD, plainD, List.mem_append, List.mem_cons, List.not_mem_nil, or_false, List.cons_append, List.nil_append] at ha ⊢
    rcases ha with rfl | rfl | rfl | rfl | rfl | rfl | rfl | rfl | rfl <;> simp) (by
    simp only [List.flatMap_cons, List.flatMap_nil, List.append_nil, lexD, nsD, cellD, strsD, codeD, objD, plainD, List.cons_append, List.nil_append, List.nodup_cons, List.mem_cons, List.not_mem_nil, or_false, not_or] at hnd ⊢
    simp only [hnd, not_false_eq_true, and_self, and_true, true_and, ne_eq, Ne.symm]
    skip))
end Mine
end

section
open PySem PySem.W PySem.Calls PyProof.Rows
namespace Mine
theorem Paired.drop {α β : Type} {F : α → β → Prop} : ∀ {l₁ : List α} {l₂ : List β}, Paired F l₁ l₂ → ∀ n, Paired F (l₁.drop n) (l₂.drop n)
  | _, _, .nil, n => by simp; exact .nil
  | _, _, .cons h t, n => by
    cases n with
    | zero => exact .cons h t
    | succ n => exact Paired.drop t n
theorem Paired.take {α β : Type} {F : α → β → Prop} : ∀ {l₁ : List α} {l₂ : List β}, Paired F l₁ l₂ → ∀ n, Paired F (l₁.take n) (l₂.take n)
  | _, _, .nil, n => by simp; exact .nil
  | _, _, .cons h t, n => by
    cases n with
    | zero => exact .nil
    | succ n => exact .cons h (Paired.take t n)
section
variable {prog : Program} {w : World} {A : Around} {E : Value → Shared → Prop} {K : Frag} {g h : Heap} {O N : List HD} {gs : Array GenState} {dr : Drawn} {tk : Nat} {os : OsState}

/-- xs[a:b] of strs -/
theorem r_slc {value slice : PySem.Expr} {ops : List Value} {l : Addr} {vs : List Value} {xs : List Str} {vl vu : Value} {lo hi : Option Int} {Q : Value → Shared → Prop} (H : Led K g h O N) (hl : h.IsList l vs.toArray) (hp : Paired SV vs xs) (hsz : xs.length < 10000) (pl : IsPart vl lo) (pu : IsPart vu hi)
    (hs : subscripted slice false (.ref l) (.ref h.objs.size) = operate ops (getItem (.ref l) (.ref h.objs.size)))
    (q : ∀ D h' tk', Led K g h' O (N ++ [strsD D ((xs.drop (kms_lo lo xs.length)).take (kms_hi hi xs.length - kms_lo lo xs.length))]) → Q (.ref D) ⟨h', gs, dr, tk', os⟩) :
    wpAny (model prog w) A (subscriptTail value slice (.ref l) (.ref h.objs.size)) Q E ⟨h.push { cls := .type "slice", data := .fields #[vl, vu, .none] }, gs, dr, tk, os⟩ := by
  have hlen := hp.length
  refine tail_any (s := ⟨h.push _, gs, dr, tk, os⟩) (hl.push _).typeIs slot_list_getitem.lookup (wpAny_getItem_list_slice (s := ⟨h.push _, gs, dr, tk, os⟩) (hl.push _) (Heap.IsSliceOf.new ..) pl pu .none (by simp) ?_ (by simp [sizeLine]; omega)) hs
  refine q _ _ _ (Led.new (H.ext (push_e _)) (push_e _) ⟨(vs.drop (kms_lo lo xs.length)).take (kms_hi hi xs.length - kms_lo lo xs.length), ⟨0, ?_⟩, Paired.take (Paired.drop hp _) _⟩ (by intro a ha; cases List.mem_singleton.mp ha; exact none_size _) (by simp [strsD]))
  rw [kms_pick_eq]
  unfold kms_pick
  rw [show vs.toArray.toList = vs from rfl, hlen]
  exact Heap.get?_push_size _ rfl
/-- xs[::-1] of strs -/
theorem r_slcR {value slice : PySem.Expr} {ops : List Value} {l : Addr} {vs : List Value} {xs : List Str} {vk : Value} {Q : Value → Shared → Prop} (H : Led K g h O N) (hl : h.IsList l vs.toArray) (hp : Paired SV vs xs) (hsz : xs.length < 10000) (pk : IsPart vk (some (-1)))
    (hs : subscripted slice false (.ref l) (.ref h.objs.size) = operate ops (getItem (.ref l) (.ref h.objs.size)))
    (q : ∀ D h' tk', Led K g h' O (N ++ [strsD D xs.reverse]) → Q (.ref D) ⟨h', gs, dr, tk', os⟩) :
    wpAny (model prog w) A (subscriptTail value slice (.ref l) (.ref h.objs.size)) Q E ⟨h.push { cls := .type "slice", data := .fields #[.none, .none, vk] }, gs, dr, tk, os⟩ := by
  have hlen := hp.length
  refine tail_any (s := ⟨h.push _, gs, dr, tk, os⟩) (hl.push _).typeIs slot_list_getitem.lookup (wpAny_getItem_list_slice (s := ⟨h.push _, gs, dr, tk, os⟩) (hl.push _) (Heap.IsSliceOf.new ..) .none .none pk (by decide) ?_ (by simp [sizeLine]; omega)) hs
  refine q _ _ _ (Led.new (H.ext (push_e _)) (push_e _) ⟨vs.reverse, ⟨0, ?_⟩, Paired.rev hp⟩ (by intro a ha; cases List.mem_singleton.mp ha; exact none_size _) (by simp [strsD]))
  rw [krv_pick]
  exact Heap.get?_push_size _ rfl
/-- xs + ys of strs -/
theorem r_addL {l b : Addr} {vs us : List Value} {xs ys : List Str} {Q : Value → Shared → Prop} (H : Led K g h O N) (hl : h.PlainList l vs.toArray) (hp : Paired SV vs xs) (hb : h.PlainList b us.toArray) (hq : Paired SV us ys) (hsz : xs.length + ys.length < 10000)
    (q : ∀ D h' tk', Led K g h' O (N ++ [strsD D (xs ++ ys)]) → Q (.ref D) ⟨h', gs, dr, tk', os⟩) : wpAny (model prog w) A (binaryOp .Add (.ref l) (.ref b)) Q E ⟨h, gs, dr, tk, os⟩ := by
  have h1 := hp.length
  have h2 := hq.length
  obtain ⟨n, hl⟩ := hl
  obtain ⟨m, hb⟩ := hb
  refine PySem.P.add_list (s := ⟨h, gs, dr, tk, os⟩) hl hb (q _ _ _ (H.new (push_e _) ⟨vs ++ us, ⟨0, ?_⟩, Paired.app hp hq⟩ (by intro a ha; cases List.mem_singleton.mp ha; exact none_size h) (by simp [strsD]))) (by simp [sizeLine]; omega)
  rw [show (vs ++ us).toArray = vs.toArray ++ us.toArray by simp]
  exact Heap.get?_push_size _ rfl
end
end Mine
end

section
open PySem PySem.W PySem.Calls PyProof.Rows
namespace Mine
local macro_rules | `(tactic| walk_at "eval Name") => `(tactic| (refine r_blt (by rfl) (by rfl) (by assumption) (by rfl) (by rfl) (by rfl) (by boot_by_name) (by decide) (by decide) ?_))
local macro_rules | `(tactic| walk_at "eval Name") => `(tactic| (refine r_glob (by rfl) (by rfl) (by assumption) (by rfl) (by rfl) (by decide) ?_))
local macro_rules | `(tactic| walk_at "eval Name") => `(tactic| (refine r_loc (by rfl) (by rfl) (by assumption) (by rfl) (by rfl) (by first | rfl | assumption) (by decide) ?_))
local macro_rules | `(tactic| walk_at "storeName") => `(tactic| (refine r_sto (by assumption) (by rfl) (by rfl) (by rfl) (by rfl) ?_; intro h' tk' H'; (try simp only [List.cons_append, List.nil_append, List.set_cons_zero, List.set_cons_succ] at H')))
local macro_rules | `(tactic| walk_at "newList") => `(tactic| (refine r_newList (by assumption) (by simp [sizeLine]) ?_; intro a' h' tk' H'; (try simp only [List.cons_append, List.nil_append, List.set_cons_zero, List.set_cons_succ] at H')))
local macro_rules | `(tactic| walk_at "eval Constant int") => `(tactic| (refine r_cint ?_; intro _ _))
local macro_rules | `(tactic| walk_at "eval Constant str") => `(tactic| (refine r_cstr ?_; intro _ _))
local macro_rules | `(tactic| walk_at "binaryOp Add int int") => `(tactic| (refine r_add ?_; intro _ _))
local macro_rules | `(tactic| walk_at "binaryOp Sub int int") => `(tactic| (refine r_sub ?_; intro _ _))
local macro_rules | `(tactic| walk_at "loadName") => `(tactic| (refine r_ldn (by rfl) (by rfl) (by assumption) (by rfl) (by rfl) (by first | rfl | assumption) ?_))
local macro_rules | `(tactic| walk_at "exec Assign") => `(tactic| (with_reducible refine plainObj_wpAny_Assign_Attribute ?_ (by with_unfolding_all rfl)))
theorem pick_from {α : Type} (xs : List α) {c : Int} (hc : 0 ≤ c) : (xs.drop (kms_lo (some c) xs.length)).take (kms_hi none xs.length - kms_lo (some c) xs.length) = xs.drop c.toNat := by
  unfold kms_lo kms_hi
  dsimp only
  rw [if_neg (by omega)]
  by_cases h : c.toNat ≤ xs.length
  · rw [Nat.min_eq_left h, List.take_of_length_le (by simp)]
  · rw [Nat.min_eq_right (by omega), List.drop_of_length_le (Nat.le_refl _), List.drop_of_length_le (by omega)]; simp
theorem pick_upto {α : Type} (xs : List α) {c : Int} (hc : 0 ≤ c) : (xs.drop (kms_lo none xs.length)).take (kms_hi (some c) xs.length - kms_lo none xs.length) = xs.take c.toNat := by
  unfold kms_lo kms_hi
  dsimp only
  rw [if_neg (by omega), List.drop_zero, Nat.sub_zero]
  by_cases h : c.toNat ≤ xs.length
  · rw [Nat.min_eq_left h]
  · rw [Nat.min_eq_right (by omega), List.take_of_length_le (Nat.le_refl _), List.take_of_length_le (by omega)]
section
variable {prog : Program} {w : World} {A : Around} {E : Value → Shared → Prop} {K : Frag} {g h : Heap} {O N : List HD} {gs : Array GenState} {dr : Drawn} {tk : Nat} {os : OsState}
theorem r_from {value slice : PySem.Expr} {ops : List Value} {l : Addr} {vs : List Value} {xs : List Str} {c : Int} {t : Tok} {Q : Value → Shared → Prop} (H : Led K g h O N) (hl : h.IsList l vs.toArray) (hp : Paired SV vs xs) (hsz : xs.length < 10000) (hc : 0 ≤ c)
    (hs : subscripted slice false (.ref l) (.ref h.objs.size) = operate ops (getItem (.ref l) (.ref h.objs.size)))
    (q : ∀ D h' tk', Led K g h' O (N ++ [strsD D (xs.drop c.toNat)]) → Q (.ref D) ⟨h', gs, dr, tk', os⟩) :
    wpAny (model prog w) A (subscriptTail value slice (.ref l) (.ref h.objs.size)) Q E ⟨h.push { cls := .type "slice", data := .fields #[.int c t, .none, .none] }, gs, dr, tk, os⟩ :=
  r_slc H hl hp hsz (.int c t) .none hs (by rw [pick_from xs hc]; exact q)
theorem r_upto {value slice : PySem.Expr} {ops : List Value} {l : Addr} {vs : List Value} {xs : List Str} {c : Int} {t : Tok} {Q : Value → Shared → Prop} (H : Led K g h O N) (hl : h.IsList l vs.toArray) (hp : Paired SV vs xs) (hsz : xs.length < 10000) (hc : 0 ≤ c)
    (hs : subscripted slice false (.ref l) (.ref h.objs.size) = operate ops (getItem (.ref l) (.ref h.objs.size)))
    (q : ∀ D h' tk', Led K g h' O (N ++ [strsD D (xs.take c.toNat)]) → Q (.ref D) ⟨h', gs, dr, tk', os⟩) :
    wpAny (model prog w) A (subscriptTail value slice (.ref l) (.ref h.objs.size)) Q E ⟨h.push { cls := .type "slice", data := .fields #[.none, .int c t, .none] }, gs, dr, tk, os⟩ :=
  r_slc H hl hp hsz .none (.int c t) hs (by rw [pick_upto xs hc]; exact q)
theorem Led.strs {l : Addr} {xs : List Str} (H : Led K g h O N) {j : Nat} (hj : N[j]? = some (strsD l xs)) : ∃ vs : List Value, h.PlainList l vs.toArray ∧ Paired SV vs xs := H.at hj
theorem Led.bplain {l : Addr} {vs : Array Value} (H : Led K g h [] N) (hl : g.PlainList l vs) : h.PlainList l vs := hl.at fun o e => H.base e
end
/-- where the mirror at the end of a row begins -/
def mirCut {α : Type} [DecidableEq α] : List α → Nat
  | [] => 0
  | x :: xs => if x :: xs = (x :: xs).reverse then 0 else mirCut xs + 1
theorem mirCut_eq {α : Type} [DecidableEq α] (xs : List α) : mirCut xs = if xs = xs.reverse then 0 else mirCut xs.tail + 1 := by
  cases xs with
  | nil => rfl
  | cons x xs => rw [mirCut]; rfl
theorem mirCut_le {α : Type} [DecidableEq α] (xs : List α) : mirCut xs ≤ xs.length := by
  induction xs with
  | nil => exact Nat.le_refl _
  | cons x xs ih => rw [mirCut]; split <;> simp <;> omega
def mirr {α : Type} [DecidableEq α] (xs : List α) : List α := xs ++ (xs.take (mirCut xs)).reverse

set_option maxRecDepth 100000 in
set_option maxHeartbeats 8000000 in
theorem sm_call {w : World} {A : Around} {h : Heap} {gs : Array GenState} {dr : Drawn} {tk : Nat} {os : OsState} {R : Result → Shared → Prop} {l : Addr} {vs : List Value} {xs : List Str}
    (G : Gd (KK w) h) (hl : h.PlainList l vs.toArray) (hp : Paired SV vs xs) (hd : A.depth < 600) (hu : A.units < 600) (hsz : xs.length < 1000)
    (k : ∀ D h' tk', Led (KK w) h h' [] [strsD D (mirr xs)] → R (.ok (.ret (.ref D))) ⟨h', gs, dr, tk', os⟩) :
    codeAny (model PG w) A (.call (.ref 94) ⟨[.ref l], []⟩) R ⟨h, gs, dr, tk, os⟩ := by
  refine r_enter (lv := [(("row" : Str), .ref l)]) (Led.start G) (Nat.lt_of_lt_of_le hd (by decide)) rfl rfl rfl rfl rfl rfl rfl rfl rfl rfl ?_
  intro E' L h₁ tk₁ H1
  repeat' walk1
  rename_i h2 tk2 H2
  refine r_while (fun n h' => ∃ (c : Nat) (t : Tok) (lv : List (Str × Value)), n = mirCut (xs.drop c) ∧ c + mirCut (xs.drop c) = mirCut xs ∧ Led (KK w) h h' [] [nsD L lv] ∧ lv.lookup ("cut" : Str) = some (.int c t) ∧ lv.lookup ("row" : Str) = some (.ref l)) (mirCut xs) ⟨0, _, _, by simp, by simp, H2, by rfl, by rfl⟩ ?_
  intro E2 n h3 tk3 ⟨c, t, lv, hn, hc, H3, e1, e2⟩
  repeat' walk1
  have B := hl.isList
  refine r_from H3 (H3.blist B) hp (by omega) (by omega) (by rfl) ?_; intro D4 h4 tk4 H4
  simp only [List.cons_append, List.nil_append, Int.toNat_natCast] at H4
  repeat' walk1
  refine r_from H4 (H4.blist B) hp (by omega) (by omega) (by rfl) ?_; intro D5 h5 tk5 H5
  simp only [List.cons_append, List.nil_append, Int.toNat_natCast] at H5
  repeat' walk1
  obtain ⟨v5, hl5, hp5⟩ := H5.strs (j := 2) (by rfl)
  refine r_slcR H5 hl5.isList hp5 (by simp; omega) (.int _ _) (by rfl) ?_; intro D6 h6 tk6 H6
  simp only [List.cons_append, List.nil_append] at H6
  obtain ⟨va, hla, hpa⟩ := H6.strs (j := 1) (by rfl)
  obtain ⟨vb, hlb, hpb⟩ := H6.strs (j := 3) (by rfl)
  refine r_neSS hla.isList hpa hlb.isList hpb (by rw [deeper_units']; show _ < 9900; omega) ?_
  have H7 := H6.sub (N' := [nsD L lv]) (by simp)
  clear H3 H4 H5 H6 hla hlb hpa hpb hl5 hp5
  walk1
  by_cases hm : xs.drop c = (xs.drop c).reverse
  · rw [if_neg (by rw [decide_eq_true hm]; decide)]
    have hz : mirCut (xs.drop c) = 0 := by rw [mirCut_eq, if_pos hm]
    repeat' walk1
    refine r_upto H7 (H7.blist B) hp (by omega) (by omega) (by rfl) ?_; intro D8 h8 tk8 H8
    simp only [List.cons_append, List.nil_append, Int.toNat_natCast] at H8
    repeat' walk1
    obtain ⟨v8, hl8, hp8⟩ := H8.strs (j := 1) (by rfl)
    refine r_slcR H8 hl8.isList hp8 (by simp; omega) (.int _ _) (by rfl) ?_; intro D9 h9 tk9 H9
    simp only [List.cons_append, List.nil_append] at H9
    repeat' walk1
    obtain ⟨v9, hl9, hp9⟩ := H9.strs (j := 2) (by rfl)
    refine r_addL H9 (H9.bplain hl) hp hl9 hp9 (by simp; omega) ?_; intro D10 h10 tk10 H10
    simp only [List.cons_append, List.nil_append] at H10
    repeat' walk1
    refine k D10 _ _ ?_
    unfold mirr
    rw [← hc, hz, Nat.add_zero]
    exact H10.sub (by simp)
  · rw [if_pos (by rw [decide_eq_false hm]; decide)]
    repeat' walk1
    rename_i h8 tk8 H8
    have hz : mirCut (xs.drop c) = mirCut (xs.drop (c + 1)) + 1 := by rw [mirCut_eq, if_neg hm, List.tail_drop]
    exact Nx.mk (by omega) ⟨c + 1, _, _, rfl, by omega, by assumption, by rfl, by exact e2⟩
end Mine
end

section
open PySem PySem.W PySem.Calls PyProof.Rows
namespace Mine
local macro_rules | `(tactic| walk_at "eval Name") => `(tactic| (refine r_blt (by rfl) (by rfl) (by assumption) (by rfl) (by rfl) (by rfl) (by boot_by_name) (by decide) (by decide) ?_))
local macro_rules | `(tactic| walk_at "eval Name") => `(tactic| (refine r_glob (by rfl) (by rfl) (by assumption) (by rfl) (by rfl) (by decide) ?_))
local macro_rules | `(tactic| walk_at "eval Name") => `(tactic| (refine r_loc (by rfl) (by rfl) (by assumption) (by rfl) (by rfl) (by first | rfl | assumption) (by decide) ?_))
local macro_rules | `(tactic| walk_at "storeName") => `(tactic| (refine r_sto (by assumption) (by rfl) (by rfl) (by rfl) (by rfl) ?_; intro h' tk' H'; (try simp only [List.cons_append, List.nil_append, List.set_cons_zero, List.set_cons_succ] at H')))
local macro_rules | `(tactic| walk_at "newList") => `(tactic| (refine r_newList (by assumption) (by simp [sizeLine]) ?_; intro a' h' tk' H'; (try simp only [List.cons_append, List.nil_append, List.set_cons_zero, List.set_cons_succ] at H')))
local macro_rules | `(tactic| walk_at "eval Constant int") => `(tactic| (refine r_cint ?_; intro _ _))
local macro_rules | `(tactic| walk_at "eval Constant str") => `(tactic| (refine r_cstr ?_; intro _ _))
local macro_rules | `(tactic| walk_at "binaryOp Add int int") => `(tactic| (refine r_add ?_; intro _ _))
local macro_rules | `(tactic| walk_at "binaryOp Sub int int") => `(tactic| (refine r_sub ?_; intro _ _))
local macro_rules | `(tactic| walk_at "loadName") => `(tactic| (refine r_ldn (by rfl) (by rfl) (by assumption) (by rfl) (by rfl) (by first | rfl | assumption) ?_))
local macro_rules | `(tactic| walk_at "exec Assign") => `(tactic| (with_reducible refine plainObj_wpAny_Assign_Attribute ?_ (by with_unfolding_all rfl)))
section
variable {prog : Program} {w : World} {A : Around} {E : Value → Shared → Prop} {K : Frag} {g h : Heap} {O N : List HD} {gs : Array GenState} {dr : Drawn} {tk : Nat} {os : OsState}
theorem r_itemN {value slice : PySem.Expr} {l : Addr} {vs : List Value} {k : Int} {u : Tok} {v : Value} {Q : Value → Shared → Prop} (hl : h.IsList l vs.toArray) (h0 : k < 0) (h1 : 0 ≤ k + vs.length) (hsz : vs.length < 100000) (hx : vs[(k + vs.length).toNat]? = some v) (q : Q v ⟨h, gs, dr, tk, os⟩)
    {ops : List Value} (hs : subscripted slice false (.ref l) (.int k u) = operate ops (getItem (.ref l) (.int k u))) :
    wpAny (model prog w) A (subscriptTail value slice (.ref l) (.int k u)) Q E ⟨h, gs, dr, tk, os⟩ :=
  tail_any (s := ⟨h, gs, dr, tk, os⟩) hl.typeIs slot_list_getitem.lookup (wpAny_getItem_list_neg (s := ⟨h, gs, dr, tk, os⟩) hl h0 (by simp; omega) (by omega) (by simpa using hx) q) hs
theorem r_lastI {value slice : PySem.Expr} {l : Addr} {xs : List Int} {j : Nat} {u : Tok} {x : Int} {Q : Value → Shared → Prop} (H : Led K g h O N) (hj : N[j]? = some (intsD l xs)) (h1 : 0 < xs.length) (hsz : xs.length < 10000) (hx : xs[xs.length - 1]? = some x)
    (q : ∀ t, Q (.int x t) ⟨h, gs, dr, tk, os⟩) {ops : List Value} (hs : subscripted slice false (.ref l) (.int (-1) u) = operate ops (getItem (.ref l) (.int (-1) u))) :
    wpAny (model prog w) A (subscriptTail value slice (.ref l) (.int (-1) u)) Q E ⟨h, gs, dr, tk, os⟩ := by
  obtain ⟨vs, hl, hp⟩ := H.at hj
  have hlen := hp.length
  obtain ⟨v, hv, t, rfl⟩ := Paired.get hp hx
  exact r_itemN hl (by omega) (by omega) (by omega) (by rw [show (-1 + (vs.length : Int)).toNat = xs.length - 1 by omega]; exact hv) (q t) hs
end

/-- the row that the overlap table tells -/
def grown (xs : List Str) (y : Str) : List Str :=
  if (ovT (xs ++ [y])).getD xs.length 0 = 0 then xs ++ [y] ++ xs else xs ++ xs.drop ((ovT (xs ++ [y])).getD xs.length 0 - 1)

set_option maxRecDepth 100000 in
set_option maxHeartbeats 8000000 in
theorem gr_call {w : World} {A : Around} {h : Heap} {gs : Array GenState} {dr : Drawn} {tk : Nat} {os : OsState} {R : Result → Shared → Prop} {l : Addr} {vs : List Value} {xs : List Str} {y : Str} {t : Tok}
    (G : Gd (KK w) h) (hl : h.PlainList l vs.toArray) (hp : Paired SV vs xs) (hd : A.depth < 600) (hu : A.units < 600) (hA : A.handled = none) (hsz : xs.length < 900)
    (k : ∀ D h' tk', Led (KK w) h h' [] [strsD D (grown xs y)] → R (.ok (.ret (.ref D))) ⟨h', gs, dr, tk', os⟩) :
    codeAny (model PG w) A (.call (.ref 101) ⟨[.ref l, .str y t], []⟩) R ⟨h, gs, dr, tk, os⟩ := by
  refine r_enter (lv := [(("word" : Str), .str y t), (("row" : Str), .ref l)]) (Led.start G) (Nat.lt_of_lt_of_le hd (by decide)) rfl rfl rfl rfl rfl rfl rfl rfl rfl rfl ?_
  intro E' L h₁ tk₁ H1
  repeat' walk1
  refine callWith_K (K := KK w) H1.gd.frag (by rfl) ?_
  repeat' walk1
  rename_i a2 h2 tk2 H2
  have p2 : h2.PlainList a2 [.str y t].toArray := H2.at (j := 1) (d := plainD a2 [.str y t]) rfl
  refine r_addL H2 (H2.bplain hl) hp p2 (.cons ⟨t, rfl⟩ .nil) (by simp; omega) ?_; intro D3 h3 tk3 H3
  simp only [List.cons_append, List.nil_append] at H3
  walk1
  refine ⟨H3.gd.frag, ?_⟩
  obtain ⟨v3, hl3, hp3⟩ := H3.strs (j := 2) (by rfl)
  refine wpAny_call (ov_call H3.gd (by rw [deeper_depth']; omega) (by rw [deeper_units']; omega) hA hl3.isList hp3 (by simp; omega) ?_); intro h4 tk4 a4 H4
  have H5 := H3.backNew (by simp [intsD]) H4
  simp only [List.cons_append, List.nil_append] at H5
  clear H4 H3 hl3
  dsimp only
  repeat' walk1
  have hlen : (ovT (xs ++ [y])).length = xs.length + 1 := by unfold ovT; rw [ovRun_len]; simp
  have hlez : (zs (ovT (xs ++ [y]))).length = xs.length + 1 := by unfold zs; rw [List.length_map]; exact hlen
  refine r_lastI (j := 3) H5 (by rfl) (by omega) (by omega) (by rw [hlez]; exact zs_get (k := xs.length) (by omega)) ?_ (by rfl); intro t6
  have hle : (ovT (xs ++ [y])).getD xs.length 0 ≤ xs.length := ovRun_le _ _ _
  unfold grown at k
  generalize hlap : (ovT (xs ++ [y])).getD xs.length 0 = lap at k hle ⊢
  repeat' walk1
  · rename_i h7 tk7 H7 _ _ hz a8 h8 tk8 H8
    have hz : lap = 0 := by omega
    rw [if_pos hz] at k
    have p8 : h8.PlainList a8 [.str y t].toArray := H8.at (j := 4) (d := plainD a8 [.str y t]) rfl
    refine r_addL H8 (H8.bplain hl) hp p8 (.cons ⟨t, rfl⟩ .nil) (by simp; omega) ?_; intro D9 h9 tk9 H9
    simp only [List.cons_append, List.nil_append] at H9
    clear H7 H8
    repeat' walk1
    obtain ⟨v9, hl9, hp9⟩ := H9.strs (j := 5) (by rfl)
    refine r_addL H9 hl9 hp9 (H9.bplain hl) hp (by simp; omega) ?_; intro D10 h10 tk10 H10
    simp only [List.cons_append, List.nil_append] at H10
    repeat' walk1
    exact k D10 _ _ (H10.sub (by simp))
  · rename_i h7 tk7 H7 _ _ hz _ _ _ tk8
    have hz : ¬ lap = 0 := by omega
    rw [if_neg hz] at k
    refine r_from H7 (H7.blist hl.isList) hp (by omega) (by omega) (by rfl) ?_; intro D8 h8 tk8 H8
    simp only [List.cons_append, List.nil_append] at H8
    rw [show ((lap : Int) - 1).toNat = lap - 1 by omega] at H8
    clear H7
    repeat' walk1
    obtain ⟨v9, hl9, hp9⟩ := H8.strs (j := 4) (by rfl)
    refine r_addL H8 (H8.bplain hl) hp hl9 hp9 (by simp; omega) ?_; intro D10 h10 tk10 H10
    simp only [List.cons_append, List.nil_append] at H10
    repeat' walk1
    exact k D10 _ _ (H10.sub (by simp))
end Mine
end

section
open PySem PySem.W PySem.Calls PyProof.Rows
namespace Mine
local macro_rules | `(tactic| walk_at "eval Name") => `(tactic| (refine r_blt (by rfl) (by rfl) (by assumption) (by rfl) (by rfl) (by rfl) (by boot_by_name) (by decide) (by decide) ?_))
local macro_rules | `(tactic| walk_at "eval Name") => `(tactic| (refine r_glob (by rfl) (by rfl) (by assumption) (by rfl) (by rfl) (by decide) ?_))
local macro_rules | `(tactic| walk_at "eval Name") => `(tactic| (refine r_loc (by rfl) (by rfl) (by assumption) (by rfl) (by rfl) (by first | rfl | assumption) (by decide) ?_))
local macro_rules | `(tactic| walk_at "storeName") => `(tactic| (refine r_sto (by assumption) (by rfl) (by rfl) (by rfl) (by rfl) ?_; intro h' tk' H'; (try simp only [List.cons_append, List.nil_append, List.set_cons_zero, List.set_cons_succ] at H')))
local macro_rules | `(tactic| walk_at "newList") => `(tactic| (refine r_newList (by assumption) (by simp [sizeLine]) ?_; intro a' h' tk' H'; (try simp only [List.cons_append, List.nil_append, List.set_cons_zero, List.set_cons_succ] at H')))
local macro_rules | `(tactic| walk_at "eval Constant int") => `(tactic| (refine r_cint ?_; intro _ _))
local macro_rules | `(tactic| walk_at "eval Constant str") => `(tactic| (refine r_cstr ?_; intro _ _))
local macro_rules | `(tactic| walk_at "binaryOp Add int int") => `(tactic| (refine r_add ?_; intro _ _))
local macro_rules | `(tactic| walk_at "binaryOp Sub int int") => `(tactic| (refine r_sub ?_; intro _ _))
local macro_rules | `(tactic| walk_at "loadName") => `(tactic| (refine r_ldn (by rfl) (by rfl) (by assumption) (by rfl) (by rfl) (by first | rfl | assumption) ?_))
local macro_rules | `(tactic| walk_at "exec Assign") => `(tactic| (with_reducible refine plainObj_wpAny_Assign_Attribute ?_ (by with_unfolding_all rfl)))
/-- a plain list of ints -/
def pintsD (a : Addr) (xs : List Int) : HD where
  fp := [a]
  P h := ∃ vs : List Value, h.PlainList a vs.toArray ∧ Paired IV vs xs
  st h h' e p := by obtain ⟨vs, l, q⟩ := p; exact ⟨vs, l.at (e a (.head _)), q⟩
  al h p b hb := by cases hb with | head => (obtain ⟨vs, ⟨n, ho⟩, _⟩ := p; exact ⟨_, ho⟩) | tail _ q => cases q
theorem Led.pints {K : Frag} {g h : Heap} {O N : List HD} {l : Addr} {xs : List Int} (H : Led K g h O N) {j : Nat} (hj : N[j]? = some (pintsD l xs)) : ∃ vs : List Value, h.PlainList l vs.toArray ∧ Paired IV vs xs := H.at hj
theorem Led.ints {K : Frag} {g h : Heap} {O N : List HD} {l : Addr} {xs : List Int} (H : Led K g h O N) {j : Nat} (hj : N[j]? = some (intsD l xs)) : ∃ vs : List Value, h.IsList l vs.toArray ∧ Paired IV vs xs := H.at hj
theorem r_last {prog : Program} {w : World} {A : Around} {E : Value → Shared → Prop} {h : Heap} {gs : Array GenState} {dr : Drawn} {tk : Nat} {os : OsState} {value slice : PySem.Expr} {l : Addr} {vs : List Value} {xs : List Int} {u : Tok} {x : Int} {Q : Value → Shared → Prop} (hl : h.IsList l vs.toArray) (hp : Paired IV vs (xs ++ [x])) (hsz : xs.length < 10000)
    (q : ∀ t, Q (.int x t) ⟨h, gs, dr, tk, os⟩) {ops : List Value} (hs : subscripted slice false (.ref l) (.int (-1) u) = operate ops (getItem (.ref l) (.int (-1) u))) :
    wpAny (model prog w) A (subscriptTail value slice (.ref l) (.int (-1) u)) Q E ⟨h, gs, dr, tk, os⟩ := by
  have hlen := hp.length
  rw [List.length_append, List.length_singleton] at hlen
  obtain ⟨v, hv, t, rfl⟩ := Paired.get hp (i := xs.length) (y := x) (by simp)
  exact r_itemN hl (by omega) (by omega) (by omega) (by rw [show (-1 + (vs.length : Int)).toNat = xs.length by omega]; exact hv) (q t) hs
theorem zs_app (a b : List Nat) : zs (a ++ b) = zs a ++ zs b := by unfold zs; rw [List.map_append]
theorem zs_len (a : List Nat) : (zs a).length = a.length := by unfold zs; rw [List.length_map]
def lapsC (t : List Nat) : Nat → Nat → List Nat
  | 0, c => [c]
  | f + 1, c => if c = 0 then [c] else c :: lapsC t f (t.getD (c - 1) 0)
def laps (xs : List Str) : List Nat := lapsC (ovT xs) xs.length ((ovT xs).getD (xs.length - 1) 0)

set_option maxRecDepth 100000 in
set_option maxHeartbeats 8000000 in
theorem lp_call {w : World} {A : Around} {h : Heap} {gs : Array GenState} {dr : Drawn} {tk : Nat} {os : OsState} {R : Result → Shared → Prop} {l : Addr} {vs : List Value} {xs : List Str}
    (G : Gd (KK w) h) (hl : h.PlainList l vs.toArray) (hp : Paired SV vs xs) (hd : A.depth < 600) (hu : A.units < 600) (hA : A.handled = none) (hsz : xs.length < 900) (hne : 0 < xs.length)
    (k : ∀ D h' tk', Led (KK w) h h' [] [pintsD D (zs (laps xs))] → R (.ok (.ret (.ref D))) ⟨h', gs, dr, tk', os⟩) :
    codeAny (model PG w) A (.call (.ref 115) ⟨[.ref l], []⟩) R ⟨h, gs, dr, tk, os⟩ := by
  refine r_enter (lv := [(("row" : Str), .ref l)]) (Led.start G) (Nat.lt_of_lt_of_le hd (by decide)) rfl rfl rfl rfl rfl rfl rfl rfl rfl rfl ?_
  intro E' L h₁ tk₁ H1
  repeat' walk1
  refine callWith_K (K := KK w) H1.gd.frag (by rfl) ?_
  walk1
  walk1
  walk1
  refine ⟨H1.gd.frag, ?_⟩
  refine wpAny_call (ov_call H1.gd (by rw [deeper_depth']; omega) (by rw [deeper_units']; omega) hA (H1.blist hl.isList) hp (by omega) ?_); intro h4 tk4 a4 H4
  have H5 := H1.backNew (by simp [intsD]) H4
  simp only [List.cons_append, List.nil_append] at H5
  clear H4
  dsimp only
  repeat' walk1
  rename_i h6 tk6 H6 _ _
  have hlen : (ovT xs).length = xs.length := by unfold ovT; rw [ovRun_len]
  have hlez : (zs (ovT xs)).length = xs.length := by unfold zs; rw [List.length_map]; exact hlen
  have hle : ∀ m, (ovT xs).getD m 0 ≤ m := ovRun_le _ _
  refine r_lastI (j := 1) H6 (by rfl) (by omega) (by omega) (by rw [hlez]; exact zs_get (k := xs.length - 1) (by omega)) ?_ (by rfl); intro t7
  repeat' walk1
  rename_i la h8 tk8 H8 h9 tk9 H9
  clear H8 H6 H5 H1
  have H9 := H9.conv (j := 2) (d' := pintsD la (zs ([] ++ [(ovT xs).getD (xs.length - 1) 0]))) (by rfl) (by rfl) (fun p => ⟨_, p, .cons ⟨t7, rfl⟩ .nil⟩)
  simp only [List.set_cons_zero, List.set_cons_succ] at H9
  refine r_while (fun n h' => ∃ (lv : List (Str × Value)) (pre : List Nat) (c f : Nat), n = c ∧ c ≤ f ∧ pre.length + c ≤ xs.length ∧ pre ++ lapsC (ovT xs) f c = laps xs ∧ Led (KK w) h h' [] [nsD L lv, intsD a4 (zs (ovT xs)), pintsD la (zs (pre ++ [c]))] ∧
    lv.lookup ("laps" : Str) = some (.ref la) ∧ lv.lookup ("table" : Str) = some (.ref a4)) _ ⟨_, [], (ovT xs).getD (xs.length - 1) 0, xs.length, rfl, by have := hle (xs.length - 1); omega, by have := hle (xs.length - 1); show 0 + _ ≤ _; omega, by rfl, H9, by rfl, by rfl⟩ ?_
  clear H9
  intro E2 n h3 tk3 ⟨lv, pre, c, f, hn, hcf, hpc, hl0, H3, e1, e2⟩
  repeat' walk1
  obtain ⟨v3, hl3, hp3⟩ := H3.pints (j := 2) (by rfl)
  have hp3' := hp3
  rw [zs_app, show zs [c] = [(c : Int)] from rfl] at hp3'
  refine r_last hl3.isList hp3' (by rw [zs_len]; omega) ?_ (by rfl); intro t4
  repeat' walk1
  · rename_i hc
    have hc : 0 < c := by omega
    refine r_lmeth hl3 PySem.F.slot_list_append PySem.F.type_list_append ?_
    refine r_callB (by rfl) ?_
    repeat' walk1
    refine r_last hl3.isList hp3' (by rw [zs_len]; omega) ?_ (by rfl); intro t5
    repeat' walk1
    refine r_itemI (j := 1) H3 (by rfl) (by omega) (by omega) (by rw [show ((c : Int) - 1).toNat = c - 1 by omega]; exact zs_get (k := c - 1) (by omega)) ?_ (by rfl); intro t6
    have hl3n := hp3.length
    rw [zs_len, List.length_append, List.length_singleton] at hl3n
    refine w_app hl3 (by omega) ?_; intro h7 hl7 hs7
    have H7 := H3.mod (j := 2) (d' := pintsD la (zs ((pre ++ [c]) ++ [(ovT xs).getD (c - 1) 0]))) (by rfl) (by rfl) (sameBut_e hs7) ⟨_, hl7, by rw [zs_app]; exact Paired.app hp3 (.cons ⟨t6, rfl⟩ .nil)⟩
    simp only [List.set_cons_zero, List.set_cons_succ] at H7
    repeat' walk1
    have hc1 := hle (c - 1)
    refine Nx.mk (m := (ovT xs).getD (c - 1) 0) (by omega) ⟨lv, pre ++ [c], (ovT xs).getD (c - 1) 0, f - 1, rfl, by omega, by rw [List.length_append, List.length_singleton]; omega, ?_, H7, e1, e2⟩
    rw [← hl0]
    obtain ⟨f', rfl⟩ : ∃ f', f = f' + 1 := ⟨f - 1, by omega⟩
    rw [lapsC, if_neg (by omega)]
    simp
  · rename_i hc
    have hc : c = 0 := by omega
    subst hc
    have e : laps xs = pre ++ [0] := by
      rw [← hl0]
      cases f with
      | zero => rfl
      | succ f => rw [lapsC, if_pos rfl]
    rw [← e] at H3
    exact k _ _ _ (H3.sub (by simp))
end Mine
end

section
open PySem PySem.W PySem.Calls PyProof.Rows
namespace Mine
local macro_rules | `(tactic| walk_at "eval Name") => `(tactic| (refine r_blt (by rfl) (by rfl) (by assumption) (by rfl) (by rfl) (by rfl) (by boot_by_name) (by decide) (by decide) ?_))
local macro_rules | `(tactic| walk_at "eval Name") => `(tactic| (refine r_glob (by rfl) (by rfl) (by assumption) (by rfl) (by rfl) (by decide) ?_))
local macro_rules | `(tactic| walk_at "eval Name") => `(tactic| (refine r_loc (by rfl) (by rfl) (by assumption) (by rfl) (by rfl) (by first | rfl | assumption) (by decide) ?_))
local macro_rules | `(tactic| walk_at "storeName") => `(tactic| (refine r_sto (by assumption) (by rfl) (by rfl) (by rfl) (by rfl) ?_; intro h' tk' H'; (try simp only [List.cons_append, List.nil_append, List.set_cons_zero, List.set_cons_succ] at H')))
local macro_rules | `(tactic| walk_at "newList") => `(tactic| (refine r_newList (by assumption) (by simp [sizeLine]) ?_; intro a' h' tk' H'; (try simp only [List.cons_append, List.nil_append, List.set_cons_zero, List.set_cons_succ] at H')))
local macro_rules | `(tactic| walk_at "eval Constant int") => `(tactic| (refine r_cint ?_; intro _ _))
local macro_rules | `(tactic| walk_at "eval Constant str") => `(tactic| (refine r_cstr ?_; intro _ _))
local macro_rules | `(tactic| walk_at "binaryOp Add int int") => `(tactic| (refine r_add ?_; intro _ _))
local macro_rules | `(tactic| walk_at "binaryOp Sub int int") => `(tactic| (refine r_sub ?_; intro _ _))
local macro_rules | `(tactic| walk_at "loadName") => `(tactic| (refine r_ldn (by rfl) (by rfl) (by assumption) (by rfl) (by rfl) (by first | rfl | assumption) ?_))
local macro_rules | `(tactic| walk_at "exec Assign") => `(tactic| (with_reducible refine plainObj_wpAny_Assign_Attribute ?_ (by with_unfolding_all rfl)))
/-- a list of lists of strs -/
def rowsD (a : Addr) (as : List Addr) (rs : List (List Str)) : HD where
  fp := a :: as
  P h := h.PlainList a (as.map Value.ref).toArray ∧ Paired (fun b xs => ∃ vs : List Value, h.PlainList b vs.toArray ∧ Paired SV vs xs) as rs
  st h h' e p := by
    obtain ⟨p1, p2⟩ := p
    refine ⟨p1.at (e a (.head _)), ?_⟩
    have e2 : ∀ b ∈ as, ∀ o, h.get? b = some o → h'.get? b = some o := fun b hb => e b (.tail _ hb)
    clear p1 e
    induction p2 with
    | nil => exact .nil
    | cons q t ih =>
      obtain ⟨vs, l, r⟩ := q
      exact .cons ⟨vs, l.at (e2 _ (.head _)), r⟩ (ih fun b hb => e2 b (.tail _ hb))
  al h p b hb := by
    obtain ⟨p1, p2⟩ := p
    rcases List.mem_cons.mp hb with rfl | hb
    · obtain ⟨n, ho⟩ := p1; exact ⟨_, ho⟩
    · clear p1
      induction p2 with
      | nil => cases hb
      | cons q t ih =>
        rcases List.mem_cons.mp hb with rfl | hb
        · obtain ⟨vs, ⟨n, ho⟩, _⟩ := q; exact ⟨_, ho⟩
        · exact ih (List.mem_cons_of_mem _ hb) hb

/-- a list, and lists of strs beside it -/
def rowsX (a : Addr) (us : List Value) (as : List Addr) (rs : List (List Str)) : HD where
  fp := a :: as
  P h := h.PlainList a us.toArray ∧ Paired (fun b xs => ∃ vs : List Value, h.PlainList b vs.toArray ∧ Paired SV vs xs) as rs
  st h h' e p := by
    obtain ⟨p1, p2⟩ := p
    refine ⟨p1.at (e a (.head _)), ?_⟩
    have e2 : ∀ b ∈ as, ∀ o, h.get? b = some o → h'.get? b = some o := fun b hb => e b (.tail _ hb)
    clear p1 e
    induction p2 with
    | nil => exact .nil
    | cons q t ih =>
      obtain ⟨vs, l, r⟩ := q
      exact .cons ⟨vs, l.at (e2 _ (.head _)), r⟩ (ih fun b hb => e2 b (.tail _ hb))
  al h p b hb := by
    obtain ⟨p1, p2⟩ := p
    rcases List.mem_cons.mp hb with rfl | hb
    · obtain ⟨n, ho⟩ := p1; exact ⟨_, ho⟩
    · clear p1
      induction p2 with
      | nil => cases hb
      | cons q t ih =>
        rcases List.mem_cons.mp hb with rfl | hb
        · obtain ⟨vs, ⟨n, ho⟩, _⟩ := q; exact ⟨_, ho⟩
        · exact ih (List.mem_cons_of_mem _ hb) hb

theorem rows_keep {h h' : Heap} {as : List Addr} {rs : List (List Str)} (e : ∀ b ∈ as, ∀ o, h.get? b = some o → h'.get? b = some o) (p : Paired (fun b xs => ∃ vs : List Value, h.PlainList b vs.toArray ∧ Paired SV vs xs) as rs) :
    Paired (fun b xs => ∃ vs : List Value, h'.PlainList b vs.toArray ∧ Paired SV vs xs) as rs := by
  induction p with
  | nil => exact .nil
  | cons q t ih =>
    obtain ⟨vs, l, r⟩ := q
    exact .cons ⟨vs, l.at (e _ (.head _)), r⟩ (ih fun b hb => e b (.tail _ hb))
def mrows : List Str → List Str → List (List Str)
  | _, [] => []
  | r, y :: ys => mirr (r ++ [y]) :: mrows (mirr (r ++ [y])) ys
def mok : List Str → List Str → Bool
  | _, [] => true
  | r, y :: ys => decide (mirr (r ++ [y]) = grown r y) && (decide ((mirr (r ++ [y])).length < 400) && mok (mirr (r ++ [y])) ys)

set_option maxRecDepth 100000 in
set_option maxHeartbeats 8000000 in
theorem ms_call {w : World} {A : Around} {h : Heap} {gs : Array GenState} {dr : Drawn} {tk : Nat} {os : OsState} {R : Result → Shared → Prop} {l : Addr} {vs : List Value} {xs : List Str}
    (G : Gd (KK w) h) (hl : h.IsList l vs.toArray) (hp : Paired SV vs xs) (hd : A.depth < 500) (hu : A.units < 500) (hA : A.handled = none) (hsz : xs.length < 100) (hok : mok [] xs = true)
    (k : ∀ D as h' tk', Led (KK w) h h' [] [rowsD D as ([] :: mrows [] xs)] → R (.ok (.ret (.ref D))) ⟨h', gs, dr, tk', os⟩) :
    codeAny (model PG w) A (.call (.ref 108) ⟨[.ref l], []⟩) R ⟨h, gs, dr, tk, os⟩ := by
  refine r_enter (lv := [(("drawn" : Str), .ref l)]) (Led.start G) (Nat.lt_of_lt_of_le hd (by decide)) rfl rfl rfl rfl rfl rfl rfl rfl rfl rfl ?_
  intro E' L h₁ tk₁ H1
  repeat' walk1
  rename_i a1 h2 tk2 H2 ra h3 tk3 H3 h4 tk4 H4
  clear H2 H3 H1
  have p1 : h4.PlainList a1 ([] : List Value).toArray := H4.at (j := 1) (d := plainD a1 []) rfl
  have p2 : h4.PlainList ra [.ref a1].toArray := H4.at (j := 2) (d := plainD ra [.ref a1]) rfl
  have nd4 := H4.nd
  have H5 := H4.regroup (N' := [nsD L [(("rows" : Str), .ref ra), (("drawn" : Str), .ref l)], rowsD ra [a1] ([] ++ [[]])])
    (by intro d hd; simp only [List.mem_cons, List.not_mem_nil, or_false] at hd; rcases hd with rfl | rfl
        · exact H4.at (j := 0) rfl
        · exact ⟨p2, .cons ⟨[], p1, .nil⟩ .nil⟩)
    (by intro a ha; simp only [List.flatMap_cons, List.flatMap_nil, nsD, rowsD, plainD, List.cons_append, List.nil_append, List.append_nil, List.mem_cons, List.not_mem_nil, or_false] at ha ⊢; rcases ha with rfl | rfl | rfl <;> simp)
    (by simp only [List.flatMap_cons, List.flatMap_nil, nsD, rowsD, plainD, List.cons_append, List.nil_append, List.append_nil, List.nodup_cons, List.mem_cons, List.not_mem_nil, or_false, not_or] at nd4 ⊢
        obtain ⟨⟨n1, n2⟩, n3, _⟩ := nd4
        exact ⟨⟨n2, n1⟩, fun e => n3 e.symm, by simp⟩)
  clear H4 p1 p2 nd4
  refine r_for (by intro _; rfl) ?_
  walk1
  refine r_iterL H5 (H5.blist hl) ?_; intro it h6 tk6 H6
  simp only [List.cons_append, List.nil_append] at H6
  refine ⟨fun n h' => ∃ (lv : List (Str × Value)) (i : Nat) (as : List Addr) (rs : List (List Str)) (r : List Str), n = (xs.drop i).length + 1 ∧ Led (KK w) h h' [] [nsD L lv, rowsD ra as (rs ++ [r]), liD it l i] ∧ lv.lookup ("rows" : Str) = some (.ref ra) ∧
    rs ++ [r] ++ mrows r (xs.drop i) = [] :: mrows [] xs ∧ mok r (xs.drop i) = true ∧ r.length < 400 ∧ as.length < 200 + i, _, _, _, rfl, ⟨_, 0, [a1], [], [], rfl, H6, rfl, rfl, hok, by simp, by simp⟩, by intro _; rfl, ?_⟩
  clear H5 H6
  intro E2 n h7 tk7 ⟨lv, i, as, rs, r, hn, H7, e1, hr, hok7, hr4, has⟩
  cases hx : xs.drop i with
  | nil =>
    have hxi : xs[i]? = none := by rw [← List.head?_drop, hx]; rfl
    refine r_nextL_end (j := 2) H7 hA (by rfl) (H7.blist hl) (by have := hp.length; simp at hxi ⊢; omega) ?_; intro h8 tk8 H8
    simp only [List.eraseIdx_cons_succ, List.eraseIdx_cons_zero] at H8
    rw [hx] at hr
    simp only [mrows, List.append_nil] at hr
    rw [hr] at H8
    repeat' walk1
    exact k ra as _ _ (H8.sub (by simp))
  | cons y ys =>
    have hxi : xs[i]? = some y := by rw [← List.head?_drop, hx]; rfl
    have hi : i < xs.length := (List.getElem?_eq_some_iff.mp hxi).1
    have hx1 : xs.drop (i + 1) = ys := by rw [← List.tail_drop, hx]; rfl
    obtain ⟨v, hv, ty, rfl⟩ := Paired.get hp hxi
    refine r_nextL (j := 2) H7 (by rfl) (H7.blist hl) (by simpa using hv) ?_; intro h8 tk8 H8
    simp only [List.set_cons_zero, List.set_cons_succ] at H8
    rw [hx] at hr hok7 hn
    simp only [mok, Bool.and_eq_true, decide_eq_true_eq] at hok7
    obtain ⟨ok1, ok2, ok3⟩ := hok7
    simp only [mrows] at hr
    repeat' walk1
    rename_i h9 tk9 H9
    clear H7 H8
    obtain ⟨q1, q2⟩ : (rowsD ra as (rs ++ [r])).P h9 := H9.at (j := 1) rfl
    obtain ⟨as', b, rfl, q3, vb, q4, q5⟩ := Paired.snoc_inv q2
    have hla : as'.length = rs.length := q3.length
    refine r_lmeth q1 PySem.F.slot_list_append PySem.F.type_list_append ?_
    refine r_callB (by rfl) ?_
    walk1
    walk1
    refine callWith_K (K := KK w) H9.gd.frag (by rfl) ?_
    repeat' walk1
    refine r_itemN q1.isList (by omega) (by simp; omega) (by simp at has ⊢; omega) (v := .ref b) (by rw [List.length_map, List.length_append, List.length_singleton, show (-1 + ((as'.length + 1 : Nat) : Int)).toNat = as'.length by omega, List.map_append, List.getElem?_append_right (by simp)]; simp) ?_ (by rfl)
    repeat' walk1
    rename_i a10 h10 tk10 H10
    have p10 : h10.PlainList a10 [.str y ty].toArray := H10.at (j := 3) (d := plainD a10 [.str y ty]) rfl
    obtain ⟨q1, q2⟩ : (rowsD ra (as' ++ [b]) (rs ++ [r])).P h10 := H10.at (j := 1) rfl
    obtain ⟨as2, b2, hab, q3, vb, q4, q5⟩ := Paired.snoc_inv q2
    obtain ⟨rfl, hb2⟩ := List.append_inj' hab rfl
    cases hb2
    refine r_addL H10 q4 q5 p10 (.cons ⟨ty, rfl⟩ .nil) (by simp; omega) ?_; intro D11 h11 tk11 H11
    simp only [List.cons_append, List.nil_append] at H11
    clear H10 H9 q1 q2 q3 q4 q5 p10
    walk1
    refine ⟨H11.gd.frag, ?_⟩
    obtain ⟨v11, hl11, hp11⟩ := H11.strs (j := 4) (by rfl)
    refine wpAny_call (sm_call H11.gd hl11 hp11 (by rw [deeper_depth']; omega) (by rw [deeper_units']; omega) (by simp; omega) ?_); intro D12 h12 tk12 H12
    have H13 := H11.backNew (by simp [strsD]) H12
    simp only [List.cons_append, List.nil_append] at H13
    have H14 := H13.sub (N' := [nsD L (("word", .str y ty) :: lv), rowsD ra (as' ++ [b]) (rs ++ [r]), liD it l (i + 1), strsD D12 (mirr (r ++ [y]))]) (by simp)
    clear H11 H12 H13 hl11 hp11
    dsimp only
    obtain ⟨q1, q2⟩ : (rowsD ra (as' ++ [b]) (rs ++ [r])).P h12 := H14.at (j := 1) rfl
    refine w_app q1 (by simp at has ⊢; omega) ?_; intro h15 hl15 hs15
    have nra : ra ∉ as' ++ [b] := by
      have := H14.nd
      rw [List.nil_append, List.flatMap_cons, List.flatMap_cons] at this
      exact (List.nodup_cons.mp (List.nodup_append.mp (List.nodup_append.mp this).2.1).1).1
    have H15 := H14.mod (j := 1) (d' := rowsX ra ((as' ++ [b]).map Value.ref ++ [.ref D12]) (as' ++ [b]) (rs ++ [r])) (by rfl) (by rfl)
      (fun b o hb e => hs15.extBut b o (fun q => hb (by rw [q]; simp [rowsD])) e)
      ⟨hl15, rows_keep (fun b hb o e => hs15.extBut b o (fun q => nra (q ▸ hb)) e) q2⟩
    simp only [List.set_cons_zero, List.set_cons_succ] at H15
    obtain ⟨z1, z2⟩ : (rowsX ra ((as' ++ [b]).map Value.ref ++ [.ref D12]) (as' ++ [b]) (rs ++ [r])).P h15 := H15.at (j := 1) rfl
    obtain ⟨v15, z3, z4⟩ := H15.strs (j := 3) (by rfl)
    have nd15 := H15.nd
    have H16 := H15.regroup (N' := [nsD L (("word", .str y ty) :: lv), rowsD ra ((as' ++ [b]) ++ [D12]) ((rs ++ [r]) ++ [mirr (r ++ [y])]), liD it l (i + 1)])
      (by intro d hd; simp only [List.mem_cons, List.not_mem_nil, or_false] at hd; rcases hd with rfl | rfl | rfl
          · exact H15.at (j := 0) rfl
          · exact ⟨by rw [List.map_append]; exact z1, Paired.app z2 (.cons ⟨v15, z3, z4⟩ .nil)⟩
          · exact H15.at (j := 2) rfl)
      (by intro a ha; simp only [List.flatMap_cons, List.flatMap_nil, nsD, rowsD, rowsX, strsD, liD, List.cons_append, List.nil_append, List.append_nil, List.mem_cons, List.mem_append, List.not_mem_nil, or_false] at ha ⊢; rcases ha with h | h | ((h | h) | h) | h <;> simp [h])
      (by simp only [List.nil_append, List.flatMap_cons, List.flatMap_nil, nsD, rowsD, rowsX, strsD, liD, List.cons_append, List.append_nil] at nd15 ⊢
          refine nd15.perm ?_
          refine List.Perm.cons _ (List.Perm.cons _ ?_)
          rw [List.append_assoc (as' ++ [b])]
          exact List.Perm.append_left _ (List.Perm.swap _ _ _))
    clear H14 H15 q1 q2 z1 z2 z3 z4 nd15 hl15 hs15
    repeat' walk1
    obtain ⟨q1, q2⟩ : (rowsD ra ((as' ++ [b]) ++ [D12]) ((rs ++ [r]) ++ [mirr (r ++ [y])])).P h15 := H16.at (j := 1) rfl
    have hlen : ((as' ++ [b] ++ [D12]).map Value.ref).length = as'.length + 2 := by simp
    have has' : as'.length < 400 := by simp at has; omega
    refine r_itemN q1.isList (by omega) (by rw [hlen]; omega) (by rw [hlen]; omega) (v := .ref D12) (by rw [hlen, show (-1 + ((as'.length + 2 : Nat) : Int)).toNat = as'.length + 1 by omega]; simp) ?_ (by rfl)
    repeat' walk1
    refine callWith_K (K := KK w) H16.gd.frag (by rfl) ?_
    repeat' walk1
    refine r_itemN q1.isList (by omega) (by rw [hlen]; omega) (by rw [hlen]; omega) (v := .ref b) (by rw [hlen, show (-2 + ((as'.length + 2 : Nat) : Int)).toNat = as'.length by omega]; simp) ?_ (by rfl)
    walk1
    walk1
    walk1
    refine ⟨H16.gd.frag, ?_⟩
    obtain ⟨_, _, e17, q6, v17, l17, p17⟩ := Paired.snoc_inv q2
    obtain ⟨rfl, e18⟩ := List.append_inj' e17 rfl
    cases e18
    obtain ⟨_, _, e19, _, v18, l18, p18⟩ := Paired.snoc_inv q6
    obtain ⟨rfl, e20⟩ := List.append_inj' e19 rfl
    cases e20
    refine wpAny_call (gr_call H16.gd l18 p18 (by rw [deeper_depth']; omega) (by rw [deeper_units']; omega) hA (by omega) ?_); intro D20 h20 tk20 H20
    have H21 := H16.backNew (by simp [strsD]) H20
    simp only [List.cons_append, List.nil_append] at H21
    dsimp only
    obtain ⟨v21, l21, p21⟩ := H21.strs (j := 3) (by rfl)
    have l22 : h20.PlainList D12 v17.toArray := l17.at fun o e => H20.keep _ _ e (by simp)
    refine r_neSS l22.isList p17 l21.isList p21 (by rw [deeper_units']; show _ < 9900; omega) ?_
    walk1
    rw [if_neg (by rw [decide_eq_true ok1]; decide)]
    repeat' walk1
    have H22 := H21.sub (N' := [nsD L (("word", .str y ty) :: lv), rowsD ra ((as' ++ [b]) ++ [D12]) ((rs ++ [r]) ++ [mirr (r ++ [y])]), liD it l (i + 1)]) (by simp)
    exact Nx.mk (m := ys.length + 1) (by rw [hn]; simp) ⟨_, i + 1, _, rs ++ [r], mirr (r ++ [y]), by rw [hx1], H22, by exact e1, by rw [hx1, ← hr]; simp, by rw [hx1]; exact ok3, ok2, by simp at has ⊢; omega⟩
end Mine
end

section
open PySem PySem.W PySem.Calls PyProof.Rows
namespace Mine
local macro_rules | `(tactic| walk_at "eval Name") => `(tactic| (refine r_blt (by rfl) (by rfl) (by assumption) (by rfl) (by rfl) (by rfl) (by boot_by_name) (by decide) (by decide) ?_))
local macro_rules | `(tactic| walk_at "eval Name") => `(tactic| (refine r_glob (by rfl) (by rfl) (by assumption) (by rfl) (by rfl) (by decide) ?_))
local macro_rules | `(tactic| walk_at "eval Name") => `(tactic| (refine r_loc (by rfl) (by rfl) (by assumption) (by rfl) (by rfl) (by first | rfl | assumption) (by decide) ?_))
local macro_rules | `(tactic| walk_at "storeName") => `(tactic| (refine r_sto (by assumption) (by rfl) (by rfl) (by rfl) (by rfl) ?_; intro h' tk' H'; (try simp only [List.cons_append, List.nil_append, List.set_cons_zero, List.set_cons_succ] at H')))
local macro_rules | `(tactic| walk_at "newList") => `(tactic| (refine r_newList (by assumption) (by simp [sizeLine]) ?_; intro a' h' tk' H'; (try simp only [List.cons_append, List.nil_append, List.set_cons_zero, List.set_cons_succ] at H')))
local macro_rules | `(tactic| walk_at "eval Constant int") => `(tactic| (refine r_cint ?_; intro _ _))
local macro_rules | `(tactic| walk_at "eval Constant str") => `(tactic| (refine r_cstr ?_; intro _ _))
local macro_rules | `(tactic| walk_at "binaryOp Add int int") => `(tactic| (refine r_add ?_; intro _ _))
local macro_rules | `(tactic| walk_at "binaryOp Sub int int") => `(tactic| (refine r_sub ?_; intro _ _))
local macro_rules | `(tactic| walk_at "loadName") => `(tactic| (refine r_ldn (by rfl) (by rfl) (by assumption) (by rfl) (by rfl) (by first | rfl | assumption) ?_))
local macro_rules | `(tactic| walk_at "exec Assign") => `(tactic| (with_reducible refine plainObj_wpAny_Assign_Attribute ?_ (by with_unfolding_all rfl)))
/-- the words that are read until the empty one -/
inductive Toks : List Nat → List (List Nat) → List Nat → Prop
  | done {rest rest' : List Nat} : tok rest = some ([], rest') → Toks rest [] rest'
  | more {rest r rest' wd : List Nat} {ws : List (List Nat)} : tok rest = some (wd, r) → wd ≠ [] → r.length ≤ rest.length → Toks r ws rest' → Toks rest (wd :: ws) rest'
/-- a row grows by a word -/
def rstep (row : List Str) (y : Str) : List Str := row.flatMap (fun old => if old = y then [old] else [y, old]) ++ [y]

/-- a word has been read, and these are still to come -/
def Pend (wd r : List Nat) (ws : List (List Nat)) (rest' : List Nat) : Prop := (wd = [] ∧ ws = [] ∧ r = rest') ∨ ∃ ws', wd ≠ [] ∧ ws = wd :: ws' ∧ Toks r ws' rest'
theorem Toks.pend {rest rest' : List Nat} {ws : List (List Nat)} (t : Toks rest ws rest') : ∃ wd r, tok rest = some (wd, r) ∧ Pend wd r ws rest' ∧ (ws ≠ [] → r.length ≤ rest.length) := by
  cases t with
  | done h => exact ⟨_, _, h, .inl ⟨rfl, rfl, rfl⟩, fun q => absurd rfl q⟩
  | more h hn hl t => exact ⟨_, _, h, .inr ⟨_, hn, rfl, t⟩, fun _ => hl⟩

set_option maxRecDepth 100000 in
set_option maxHeartbeats 8000000 in
theorem rw_call {w : World} {A : Around} {h : Heap} {gs : Array GenState} {dr : Drawn} {tk : Nat} {os : OsState} {R : Result → Shared → Prop} {a : LA} {rest rest' : List Nat} {ws : List (List Nat)} {T : Int}
    (H : Led (KK w) h h [lexD w a [] rest T] []) (hd : A.depth < 600) (hu : A.units < 600) (hA : A.handled = none) (hsz : rest.length < 5000) (hT : 0 ≤ T ∧ T < 100000) (ht : Toks rest ws rest') (hws : ws.length ≤ 8)
    (k : ∀ tl rl D h' tk', Led (KK w) h h' [lexD w a [] rest' T] [strsD tl (ws.map stS), strsD rl ((ws.map stS).foldl rstep []), plainD D [.ref tl, .ref rl]] → R (.ok (.ret (.ref D))) ⟨h', gs, dr, tk', os⟩) :
    codeAny (model PG w) A (.call (.ref 87) ⟨[.ref a.x], []⟩) R ⟨h, gs, dr, tk, os⟩ := by
  refine r_enter (lv := [(("lexer" : Str), .ref a.x)]) H (Nat.lt_of_lt_of_le hd (by decide)) rfl rfl rfl rfl rfl rfl rfl rfl rfl rfl ?_
  intro E' L h₁ tk₁ H1
  repeat' walk1
  rename_i tl h2 tk2 H2 h3 tk3 H3 rl h4 tk4 H4 h5 tk5 H5
  clear H1 H2 H3 H4
  obtain ⟨wd, r, ht1, hpd, hrl⟩ := ht.pend
  have L5 : LexP w a [] rest T h5 := H5.atO (j := 0) (d := lexD w a [] rest T) rfl
  refine r_lmethod (f := 42) H5.gd L5 (by rfl) (by rfl) (by intros; rfl) ?_
  refine callWith_K0 (K := KK w) H5.gd.frag (by rfl) ?_
  refine wpAny_call (gt_call (H5.calleeO (j := 0) rfl) (by rw [deeper_depth']; omega) (by rw [deeper_units']; omega) hA hsz hT ht1 ?_); intro h6 tk6 t6 H6
  have H7 := H5.backO (j := 0) rfl (by rfl) H6
  simp only [List.set_cons_zero] at H7
  clear H5 H6 L5
  dsimp only
  repeat' walk1
  rename_i h8 tk8 H8
  clear H7
  have H9 := H8.conv (j := 1) (d' := strsD tl (([] : List (List Nat)).map stS)) (by rfl) (by rfl) (fun p => ⟨[], p, .nil⟩)
  simp only [List.set_cons_zero, List.set_cons_succ] at H9
  have H10 := H9.conv (j := 2) (d' := strsD rl ((([] : List (List Nat)).map stS).foldl rstep [])) (by rfl) (by rfl) (fun p => ⟨[], p, .nil⟩)
  simp only [List.set_cons_zero, List.set_cons_succ] at H10
  clear H8 H9
  refine r_while (fun n h' => ∃ (lv : List (Str × Value)) (dn ws' : List (List Nat)) (wd r : List Nat) (rl : Addr) (t : Tok), n = ws'.length ∧ dn ++ ws' = ws ∧ Pend wd r ws' rest' ∧ (ws' ≠ [] → r.length < 5000) ∧ ((dn.map stS).foldl rstep []).length + 1 ≤ 2 ^ dn.length ∧
    Led (KK w) h h' [lexD w a [] r T] [nsD L lv, strsD tl (dn.map stS), strsD rl ((dn.map stS).foldl rstep [])] ∧ lv.lookup ("lexer" : Str) = some (.ref a.x) ∧ lv.lookup ("told" : Str) = some (.ref tl) ∧ lv.lookup ("row" : Str) = some (.ref rl) ∧ lv.lookup ("word" : Str) = some (.str (stS wd) t)) _
    ⟨_, [], ws, wd, r, rl, t6, rfl, rfl, hpd, fun q => Nat.lt_of_le_of_lt (hrl q) hsz, by simp, H10, by rfl, by rfl, by rfl, by rfl⟩ ?_
  clear H10 hpd hrl ht1
  intro E2 n h11 tk11 ⟨lv, dn, ws', wd, r, rl, t, hn, hdw, hpd, hr5, hsz2, H11, e1, e2, e3, e4⟩
  repeat' walk1
  · rename_i hw
    have hw : wd ≠ [] := by rintro rfl; exact absurd hw (by decide)
    obtain ⟨rfl, rfl, rfl⟩ | ⟨ws2, _, rfl, htk⟩ := hpd
    · exact absurd rfl hw
    have hr5 := hr5 (by simp)
    generalize hrow : (dn.map stS).foldl rstep [] = row at H11 hsz2
    refine r_for (by intro _; rfl) ?_
    walk1
    obtain ⟨vr, lr, pr⟩ := H11.strs (j := 2) (by rfl)
    refine r_iterL H11 lr.isList ?_; intro it h12 tk12 H12
    simp only [List.cons_append, List.nil_append] at H12
    have hpw : 2 ^ dn.length ≤ 256 := by
      have : dn.length ≤ 8 := by rw [← hdw, List.length_append] at hws; omega
      calc 2 ^ dn.length ≤ 2 ^ 8 := Nat.pow_le_pow_right (by omega) this
        _ = 256 := by decide
    refine ⟨fun m h' => ∃ (lv : List (Str × Value)) (i : Nat) (pbk : List Str), m = row.length - i ∧ i ≤ row.length ∧ pbk = (row.take i).flatMap (fun old => if old = stS wd then [old] else [stS wd, old]) ∧ pbk.length ≤ 2 * i ∧
      Led (KK w) h h' [lexD w a pbk r T] [nsD L lv, strsD tl (dn.map stS), strsD rl row, liD it rl i] ∧ lv.lookup ("lexer" : Str) = some (.ref a.x) ∧ lv.lookup ("told" : Str) = some (.ref tl) ∧ lv.lookup ("word" : Str) = some (.str (stS wd) t),
      _, _, _, rfl, ⟨lv, 0, [], rfl, by omega, by simp, by simp, H12, e1, e2, e4⟩, by intro _; rfl, ?_⟩
    clear H11 H12 e1 e2 e3 e4 lr pr
    intro E3 m h13 tk13 ⟨lv, i, pbk, hm, hi, hpbk, hpl, H13, e1, e2, e4⟩
    obtain ⟨vr, lr, pr⟩ := H13.strs (j := 2) (by rfl)
    have hvr := pr.length
    by_cases hlt : i < row.length
    · have hxi : row[i]? = some row[i] := List.getElem?_eq_getElem hlt
      obtain ⟨v, hv, ty, rfl⟩ := Paired.get pr hxi
      refine r_nextL (j := 3) H13 (by rfl) lr.isList (by simpa using hv) ?_; intro h14 tk14 H14
      simp only [List.set_cons_zero, List.set_cons_succ] at H14
      generalize row[i] = old at *
      clear H13
      have htk1 : row.take (i + 1) = row.take i ++ [old] := by rw [List.take_add_one, hxi]; rfl
      repeat' walk1
      · rename_i h15 tk15 H15 ho
        have ho : ¬ old = stS wd := by simpa using ho
        clear H14
        have L15 : LexP w a pbk r T h15 := H15.atO (j := 0) (d := lexD w a pbk r T) rfl
        refine r_lmethod (f := 49) H15.gd L15 (by rfl) (by rfl) (by intros; rfl) ?_
        refine callWith_K (K := KK w) H15.gd.frag (by rfl) ?_
        walk1
        walk1
        walk1
        refine ⟨H15.gd.frag, ?_⟩
        refine wpAny_call (pt_call (H15.calleeO (j := 0) rfl) (by rw [deeper_depth']; omega) (by rw [deeper_units']; omega) (by omega) ?_); intro h16 tk16 H16
        have H17 := H15.backO (j := 0) rfl (by rfl) H16
        simp only [List.set_cons_zero] at H17
        clear H15 H16 L15
        dsimp only
        repeat' walk1
        have L17 : LexP w a (pbk ++ [stS wd]) r T h16 := H17.atO (j := 0) (d := lexD w a (pbk ++ [stS wd]) r T) rfl
        refine r_lmethod (f := 49) H17.gd L17 (by rfl) (by rfl) (by intros; rfl) ?_
        refine callWith_K (K := KK w) H17.gd.frag (by rfl) ?_
        walk1
        walk1
        walk1
        refine ⟨H17.gd.frag, ?_⟩
        refine wpAny_call (pt_call (H17.calleeO (j := 0) rfl) (by rw [deeper_depth']; omega) (by rw [deeper_units']; omega) (by simp; omega) ?_); intro h18 tk18 H18
        have H19 := H17.backO (j := 0) rfl (by rfl) H18
        simp only [List.set_cons_zero] at H19
        clear H17 H18 L17
        dsimp only
        repeat' walk1
        exact Nx.mk (m := row.length - (i + 1)) (by omega) ⟨_, i + 1, _, rfl, by omega, by rw [htk1, List.flatMap_append, ← hpbk]; simp [ho], by simp; omega, H19, by exact e1, by exact e2, by exact e4⟩
      · rename_i h15 tk15 H15 ho
        have ho : old = stS wd := by simpa using ho
        clear H14
        have L15 : LexP w a pbk r T h15 := H15.atO (j := 0) (d := lexD w a pbk r T) rfl
        refine r_lmethod (f := 49) H15.gd L15 (by rfl) (by rfl) (by intros; rfl) ?_
        refine callWith_K (K := KK w) H15.gd.frag (by rfl) ?_
        walk1
        walk1
        walk1
        refine ⟨H15.gd.frag, ?_⟩
        refine wpAny_call (pt_call (H15.calleeO (j := 0) rfl) (by rw [deeper_depth']; omega) (by rw [deeper_units']; omega) (by omega) ?_); intro h16 tk16 H16
        have H17 := H15.backO (j := 0) rfl (by rfl) H16
        simp only [List.set_cons_zero] at H17
        clear H15 H16 L15
        dsimp only
        repeat' walk1
        exact Nx.mk (m := row.length - (i + 1)) (by omega) ⟨_, i + 1, _, rfl, by omega, by rw [htk1, List.flatMap_append, ← hpbk]; simp [ho], by simp; omega, H17, by exact e1, by exact e2, by exact e4⟩
    · have hie : i = row.length := by omega
      refine r_nextL_end (j := 3) H13 hA (by rfl) lr.isList (by simp; omega) ?_; intro h14 tk14 H14
      simp only [List.eraseIdx_cons_succ, List.eraseIdx_cons_zero] at H14
      clear H13
      repeat' walk1
      rename_i rl2 h15 tk15 H15 h16 tk16 H16
      clear H14 H15
      have H17 := H16.sub (N' := [nsD L (("row", .ref rl2) :: lv), strsD tl (dn.map stS), plainD rl2 []]) (by simp)
      have H18 := H17.conv (j := 2) (d' := strsD rl2 []) (by rfl) (by rfl) (fun p => ⟨[], p, .nil⟩)
      simp only [List.set_cons_zero, List.set_cons_succ] at H18
      clear H16 H17
      refine r_while (fun m h' => ∃ acc ys : List Str, m = ys.length ∧ acc ++ ys = pbk ∧ Led (KK w) h h' [lexD w a ys r T] [nsD L (("row", .ref rl2) :: lv), strsD tl (dn.map stS), strsD rl2 acc]) _ ⟨[], pbk, rfl, rfl, H18⟩ ?_
      clear H18
      intro E4 m4 h19 tk19 ⟨acc, ys, hm4, hay, H19⟩
      have hal : acc.length + ys.length = pbk.length := by rw [← hay, List.length_append]
      have hdl : dn.length ≤ 8 := by rw [← hdw, List.length_append] at hws; omega
      walk1
      walk1
      walk1
      have L19 : LexP w a ys r T h19 := H19.atO (j := 0) (d := lexD w a ys r T) rfl
      refine r_pbA H19.gd L19 ?_; intro tk20
      repeat' walk1
      rename_i e21 h21 tk21 H21
      have L21 : LexP w a ys r T h21 := H21.atO (j := 0) (d := lexD w a ys r T) rfl
      obtain ⟨v21, l21, p21⟩ := L21.pb
      have le21 : h21.PlainList e21 ([] : List Value).toArray := H21.at (j := 3) (d := plainD e21 []) rfl
      refine r_neSS l21.isList p21 le21.isList .nil (by rw [deeper_units']; show _ < 9900; omega) ?_
      have H22 := H21.sub (N' := [nsD L (("row", .ref rl2) :: lv), strsD tl (dn.map stS), strsD rl2 acc]) (by simp)
      clear H19 H21 L19 L21 l21 le21
      walk1
      cases ys with
      | cons y ys =>
        rw [if_pos (by simp)]
        repeat' walk1
        obtain ⟨v23, l23, p23⟩ := H22.strs (j := 2) (by rfl)
        have hv23 := p23.length
        simp only [List.length_cons] at hal hm4
        refine r_lmeth l23 PySem.F.slot_list_append PySem.F.type_list_append ?_
        refine r_callB (by rfl) ?_
        walk1
        walk1
        have L22 : LexP w a (y :: ys) r T h21 := H22.atO (j := 0) (d := lexD w a (y :: ys) r T) rfl
        refine r_lmethod (f := 42) H22.gd L22 (by rfl) (by rfl) (by intros; rfl) ?_
        refine callWith_K0 (K := KK w) H22.gd.frag (by rfl) ?_
        refine wpAny_call (gp_call (H22.calleeO (j := 0) rfl) (by rw [deeper_depth']; omega) (by rw [deeper_units']; omega) (by omega) ?_); intro h24 tk24 t24 H24
        have H25 := H22.backO (j := 0) rfl (by rfl) H24
        simp only [List.set_cons_zero] at H25
        clear H22 H24 L22
        dsimp only
        obtain ⟨v25, l25, p25⟩ := H25.strs (j := 2) (by rfl)
        have hv25 := p25.length
        refine w_app l25 (by omega) ?_; intro h26 l26 s26
        have H26 := H25.mod (j := 2) (d' := strsD rl2 (acc ++ [y])) (by rfl) (by rfl) (sameBut_e s26) ⟨_, l26, Paired.app p25 (.cons ⟨t24, rfl⟩ .nil)⟩
        simp only [List.set_cons_zero, List.set_cons_succ] at H26
        repeat' walk1
        exact Nx.mk (m := ys.length) (by omega) ⟨acc ++ [y], ys, rfl, by rw [← hay]; simp, H26⟩
      | nil =>
        rw [if_neg (by simp)]
        repeat' walk1
        rw [List.append_nil] at hay
        obtain ⟨v23, l23, p23⟩ := H22.strs (j := 2) (by rfl)
        have hv23 := p23.length
        simp only [List.length_nil] at hal
        refine r_lmeth l23 PySem.F.slot_list_append PySem.F.type_list_append ?_
        refine r_callB (by rfl) ?_
        walk1
        refine w_app l23 (by omega) ?_; intro h24 l24 s24
        have H24 := H22.mod (j := 2) (d' := strsD rl2 (acc ++ [stS wd])) (by rfl) (by rfl) (sameBut_e s24) ⟨_, l24, Paired.app p23 (.cons ⟨t, rfl⟩ .nil)⟩
        simp only [List.set_cons_zero, List.set_cons_succ] at H24
        clear H22 l23 l24
        repeat' walk1
        obtain ⟨v25, l25, p25⟩ := H24.strs (j := 1) (by rfl)
        have hv25 := p25.length
        rw [List.length_map] at hv25
        refine r_lmeth l25 PySem.F.slot_list_append PySem.F.type_list_append ?_
        refine r_callB (by rfl) ?_
        walk1
        refine w_app l25 (by omega) ?_; intro h26 l26 s26
        have H26 := H24.mod (j := 1) (d' := strsD tl ((dn ++ [wd]).map stS)) (by rfl) (by rfl) (sameBut_e s26) ⟨_, l26, by rw [List.map_append]; exact Paired.app p25 (.cons ⟨t, rfl⟩ .nil)⟩
        simp only [List.set_cons_zero, List.set_cons_succ] at H26
        clear H24 l25 l26
        repeat' walk1
        obtain ⟨wd2, r2, ht2, hpd2, hrl2⟩ := htk.pend
        have L26 : LexP w a [] r T h26 := H26.atO (j := 0) (d := lexD w a [] r T) rfl
        refine r_lmethod (f := 42) H26.gd L26 (by rfl) (by rfl) (by intros; rfl) ?_
        refine callWith_K0 (K := KK w) H26.gd.frag (by rfl) ?_
        refine wpAny_call (gt_call (H26.calleeO (j := 0) rfl) (by rw [deeper_depth']; omega) (by rw [deeper_units']; omega) hA hr5 hT ht2 ?_); intro h27 tk27 t27 H27
        have H28 := H26.backO (j := 0) rfl (by rfl) H27
        simp only [List.set_cons_zero] at H28
        clear H26 H27 L26
        dsimp only
        repeat' walk1
        have e : ((dn ++ [wd]).map stS).foldl rstep [] = acc ++ [stS wd] := by
          rw [List.map_append, List.foldl_append, hrow]
          show rstep row (stS wd) = _
          unfold rstep
          rw [hay, hpbk, hie, List.take_length]
        rename_i h29 tk29 H29
        rw [← e] at H29
        refine Nx.mk (m := ws2.length) (by rw [hn]; simp) ⟨_, dn ++ [wd], ws2, wd2, r2, rl2, t27, rfl, by rw [← hdw]; simp, hpd2, fun q => Nat.lt_of_le_of_lt (hrl2 q) hr5, ?_, H29, by exact e1, by exact e2, by rfl, by rfl⟩
        rw [e, List.length_append, List.length_singleton, List.length_append, List.length_singleton, Nat.pow_succ]
        omega
  · rename_i hw D h12 tk12 H12
    have hw : wd = [] := by
      cases wd with
      | nil => rfl
      | cons c cs => rw [show (stS (c :: cs) != Str.ofString "") = true from by rw [bne_iff_ne]; intro e; have := congrArg (fun x : Str => x.cps.size) e; rw [show (Str.ofString "").cps.size = 0 from by decide] at this; simp [stS] at this] at hw; cases hw
    obtain ⟨_, rfl, rfl⟩ | ⟨ws2, hne, _⟩ := hpd
    · rw [List.append_nil] at hdw
      subst hdw
      exact k _ _ _ _ _ (H12.sub (List.sublist_cons_self _ _))
    · exact absurd hw hne
end Mine
end

section
open PySem PySem.W PySem.Calls PyProof.Rows
namespace Mine
theorem paired_nats : ∀ {acc : List Value} {us : List Unit}, Paired (fun v _ => ∃ (x : Nat) (t : Tok), v = .int x t) acc us → ∃ xs : List Nat, xs.length = us.length ∧ Paired IV acc (zs xs)
  | _, _, .nil => ⟨[], rfl, .nil⟩
  | _, _, .cons h t => by
    obtain ⟨xs, e, p⟩ := paired_nats t
    obtain ⟨x, u, rfl⟩ := h
    exact ⟨x :: xs, by simp [e], .cons ⟨u, rfl⟩ p⟩
theorem zs_sum_nonneg : ∀ xs : List Nat, ∃ n : Nat, (zs xs).sum = n
  | [] => ⟨0, rfl⟩
  | x :: xs => by
    obtain ⟨n, e⟩ := zs_sum_nonneg xs
    exact ⟨x + n, by show ((x : Int) + (zs xs).sum) = _; rw [e]; omega⟩
theorem ints_get : ∀ {vs : List Value} {ns : List Int}, IntsAre vs ns → ∀ {k : Nat}, k < vs.length → ∃ x t, vs[k]? = some (.int x t) := by
  intro vs ns h k hk
  have := h.allInts vs[k] (by simp)
  obtain ⟨x, t, e⟩ := this
  exact ⟨x, t, by rw [List.getElem?_eq_getElem hk, e]⟩
/-- a range's place is ahead of its end -/
theorem range_lt {a b c : Int} (hc : 0 < c) {i : Nat} (hi : (i : Int) < Builtin.Range.rangeSize a b c) : a + i * c < b := by
  unfold Builtin.Range.rangeSize at hi
  rw [if_pos hc] at hi
  split at hi
  · have h1 : (i : Int) ≤ (b - a - 1) / c := by omega
    have h2 := Int.mul_le_of_le_ediv hc h1
    omega
  · omega
theorem small_pos {a b c : Int} (hc : 0 < c ∧ c < 2 ^ 40) (ha : 0 ≤ a ∧ a < 2 ^ 40) (hb : 0 ≤ b ∧ b < 2 ^ 40) : Builtin.Range.small a b c = true := by
  have hs : 0 ≤ Builtin.Range.rangeSize a b c ∧ Builtin.Range.rangeSize a b c ≤ 2 ^ 40 := by
    have h1 := rangeSize_toNat a b c
    have h2 := rangeSize_toNat_le a b c
    omega
  unfold Builtin.Range.small
  simp only [Builtin.Range.rangeFitsLong, Bool.and_eq_true, Bool.or_eq_true, decide_eq_true_eq, beq_iff_eq, if_pos hc.1]
  omega

section
variable {prog : Program} {w : World} {A : Around} {E : Value → Shared → Prop} {K : Frag} {g h : Heap} {O N : List HD} {gs : Array GenState} {dr : Drawn} {tk : Nat} {os : OsState} {env : Env}
theorem in_one {s : Shared} {c : Nat} {x : Str} {t u : Tok} {Q : Value → Shared → Prop} (q : Q (.bool (decide (c ∈ x.cps.toList))) s) :
    wpAny (model prog w) A (compareOp .In (.str (chS c) u) (.str x t)) Q E s := by
  refine PyProof.Rows.in_str ?_
  rw [show chS c = (⟨#[c]⟩ : Str) from rfl, StrLaws.found_one]
  exact q
theorem r_strFrom {value slice : PySem.Expr} {x : Str} {t ui : Tok} {i : Int} {Q : Value → Shared → Prop} (H : Led K g h O N) (hsz : x.length ≤ 10000)
    (hs : subscripted slice false (.str x t) (.ref h.objs.size) = operate [.ref h.objs.size, .str x t] (getItem (.str x t) (.ref h.objs.size)))
    (ht : ∀ r, letTemporaryGo value (.str x t) r = pure ())
    (q : ∀ t' h' tk', Led K g h' O N → Q (.str (Txt.slice x (some i) none) t') ⟨h', gs, dr, tk', os⟩) :
    wpAny (model prog w) A (subscriptTail value slice (.str x t) (.ref h.objs.size)) Q E ⟨h.push { cls := .type "slice", data := .fields #[.int i ui, .none, .none] }, gs, dr, tk, os⟩ :=
  tail_of_ItemOn (s := ⟨h.push _, gs, dr, tk, os⟩) (SBH.sliceItem_sn (s := ⟨h, gs, dr, tk, os⟩) (P := fun h' => Led K g h' O N) (fun h' o H' => H'.ext (push_e _)) H (fun h' t' k H' => q t' h' k H') (by simp [sizeLine]; omega)) hs ht
theorem join_flat : ∀ zs : List (List Nat), Str.join "" (zs.map stS) = stS zs.flatten
  | [] => rfl
  | [x] => by simp [Str.join]
  | x :: y :: r => by
    have ih := join_flat (y :: r)
    simp only [List.map_cons] at ih ⊢
    show stS x ++ Str.ofString "" ++ Str.join "" (stS y :: r.map stS) = _
    rw [ih]
    apply Str.ext'
    rw [Str.cps_append, Str.cps_append, show (Str.ofString "").cps = #[] from by decide]
    simp [stS]
theorem r_join {D : Addr} {acc : List Value} {zs : List (List Nat)} {t : Tok} {Q : Value → Shared → Prop} (hl : h.IsList D acc.toArray) (hp : Paired (fun v z => SV v (stS z)) acc zs) (hsz : ∀ z ∈ zs, z.length ≤ 1000) (hn : zs.length ≤ 1000)
    (q : ∀ t' tk', Q (.str (stS zs.flatten) t') ⟨h, gs, dr, tk', os⟩) : wpAny (model prog w) A (call (.builtin "str.join") [.str "" t, .ref D]) Q E ⟨h, gs, dr, tk, os⟩ := by
  have key : ∃ l : List (Str × Tok), acc = strValues l ∧ l.map (·.1) = zs.map stS := by
    clear hl q hsz hn
    induction hp with
    | nil => exact ⟨[], rfl, rfl⟩
    | cons hv t ih =>
      obtain ⟨l, e1, e2⟩ := ih
      obtain ⟨u, rfl⟩ := hv
      exact ⟨(_, u) :: l, by rw [e1]; rfl, by rw [List.map_cons, e2]; rfl⟩
  obtain ⟨l, rfl, e2⟩ := key
  refine SC.join (s := ⟨h, gs, dr, tk, os⟩) hl e2 ?_ (fun t' k => ?_)
  · unfold JoinOk
    rw [StrLaws.joinFits (B := 1000)]
    · rfl
    · intro y hy
      obtain ⟨z, hz, rfl⟩ := List.mem_map.mp hy
      rw [stS_len]; exact hsz z hz
    · rw [List.length_map]
      have : (Str.ofString "").length = 0 := by decide
      rw [this]; omega
  · rw [show Txt.join "" (zs.map stS) = Str.join "" (zs.map stS) from StrLaws.glued_eq_join _ _, join_flat]
    exact q _ _
end
end Mine
end

section
open PySem PySem.W PySem.Calls PyProof.Rows
namespace Mine
local macro_rules | `(tactic| walk_at "eval Name") => `(tactic| (refine r_blt (by rfl) (by rfl) (by assumption) (by rfl) (by rfl) (by rfl) (by boot_by_name) (by decide) (by decide) ?_))
local macro_rules | `(tactic| walk_at "eval Name") => `(tactic| (refine r_glob (by rfl) (by rfl) (by assumption) (by rfl) (by rfl) (by decide) ?_))
local macro_rules | `(tactic| walk_at "eval Name") => `(tactic| (refine r_loc (by rfl) (by rfl) (by assumption) (by rfl) (by rfl) (by first | rfl | assumption) (by decide) ?_))
local macro_rules | `(tactic| walk_at "eval Name") => `(tactic| (refine r_cellM (by rfl) (by rfl) (by rfl) (by assumption) (by first | exact .head _ | exact .tail _ (.head _) | exact .tail _ (.tail _ (.head _)) | exact .tail _ (.tail _ (.tail _ (.head _))) | exact .tail _ (.tail _ (.tail _ (.tail _ (.head _)))) | exact .tail _ (.tail _ (.tail _ (.tail _ (.tail _ (.head _))))) | exact .tail _ (.tail _ (.tail _ (.tail _ (.tail _ (.tail _ (.head _)))))) | exact .tail _ (.tail _ (.tail _ (.tail _ (.tail _ (.tail _ (.tail _ (.head _)))))))) (by decide) ?_))
local macro_rules | `(tactic| walk_at "storeName") => `(tactic| (refine r_sto (by assumption) (by rfl) (by rfl) (by rfl) (by rfl) ?_; intro h' tk' H'; (try simp only [List.cons_append, List.nil_append, List.set_cons_zero, List.set_cons_succ] at H')))
local macro_rules | `(tactic| walk_at "newList") => `(tactic| (refine r_newList (by assumption) (by simp [sizeLine]) ?_; intro a' h' tk' H'; (try simp only [List.cons_append, List.nil_append, List.set_cons_zero, List.set_cons_succ] at H')))
local macro_rules | `(tactic| walk_at "eval Constant int") => `(tactic| (refine r_cint ?_; intro _ _))
local macro_rules | `(tactic| walk_at "eval Constant str") => `(tactic| (refine r_cstr ?_; intro _ _))
local macro_rules | `(tactic| walk_at "binaryOp Add int int") => `(tactic| (refine r_add ?_; intro _ _))
local macro_rules | `(tactic| walk_at "binaryOp Sub int int") => `(tactic| (refine r_sub ?_; intro _ _))
local macro_rules | `(tactic| walk_at "loadName") => `(tactic| (refine r_ldn (by rfl) (by rfl) (by assumption) (by rfl) (by rfl) (by first | rfl | assumption) ?_))
local macro_rules | `(tactic| walk_at "exec Assign") => `(tactic| (with_reducible refine plainObj_wpAny_Assign_Attribute ?_ (by with_unfolding_all rfl)))

set_option maxRecDepth 100000 in
set_option maxHeartbeats 8000000 in
theorem hp_call {w : World} {A : Around} {h : Heap} {gs : Array GenState} {dr : Drawn} {tk : Nat} {os : OsState} {R : Result → Shared → Prop} {l : Addr} {vs : List Value} {ns : List Int}
    (G : Gd (KK w) h) (hl : h.IsList l vs.toArray) (hi : IntsAre vs ns) (hsz : vs.length ≤ 63) (hd : A.depth < 600) (hu : A.units < 600) (hA : A.handled = none)
    (k : ∀ D hs h' tk', hs.length = 10 → Led (KK w) h h' [] [pintsD D (zs hs)] → R (.ok (.ret (.ref D))) ⟨h', gs, dr, tk', os⟩) :
    codeAny (model PG w) A (.call (.ref 68) ⟨[.ref l], []⟩) R ⟨h, gs, dr, tk, os⟩ := by
  refine r_enterN (lv := []) (D := fun L => [cellD (L + 1) (some (.ref l))]) (ns := ["script"]) (Led.start G) (Nat.lt_of_lt_of_le hd (by decide)) rfl rfl rfl rfl rfl (by intro _; rfl) (by decide) (by intro _; rfl) ?_ (by intro _; rfl) rfl rfl rfl ?_
  · intro L x hx
    cases List.mem_singleton.mp hx
    exact .inr ⟨by rfl, by rfl⟩
  intro E' L h₁ tk₁ H1
  walk1
  walk1
  refine eval_LC (by rfl) (by rfl) ?_
  refine comp_map (β := Unit) (K := KK w) (g := h) 10 (fun v _ => ∃ (x : Nat) (t : Tok), v = .int x t) (fun _ => ()) (fun _ => []) [nsD L [], cellD (L + 1) (some (.ref l))] (by omega) (by intro _; rfl) (by rfl) (by rfl) (by rfl) (by rfl) (by rfl) ?_
  repeat' walk1
  refine r_range1 H1 ?_; intro r2 h2 tk2 H2
  simp only [List.cons_append, List.nil_append] at H2
  refine r_itR (n := 10) (N := [_, _]) H2 (by rfl) (by rfl) ?_; intro it h3 tk3 H3
  refine ⟨it, _, _, _, h3, tk3, rfl, rfl, itr_range hA, H3, fun _ _ _ _ _ => trivial, ?_, ?_⟩
  · clear H1 H2 H3 h₁ h2 h3
    intro E2 C D i lv acc v h5 tk5 hi10 hv e1 hacc H5
    obtain ⟨t, rfl⟩ := hv
    repeat' walk1
    refine eval_LC (by rfl) (by rfl) ?_
    have hlen : (vs.toArray.size : Int) = vs.length := by simp
    refine comp_map (β := Unit) (K := KK w) (g := h) (Builtin.Range.rangeSize (0 + (i : Int) * 1) (min 63 (vs.length : Int)) 10).toNat (fun v _ => ∃ (x : Nat) (t : Tok), v = .int x t) (fun _ => ()) (fun _ => [])
      [nsD C lv, nsD L [], cellD (L + 1) (some (.ref l)), riD it (0 + ((i + 1 : Nat) : Int) * 1) ((10 : Nat) - ((i + 1 : Nat) : Int)) 1, plainD D acc] ?_ (by intro _; rfl) (by rfl) (by rfl) (by rfl) (by rfl) (by rfl) ?_
    · have := rangeSize_toNat_le (0 + (i : Int) * 1) (min 63 (vs.length : Int)) 10
      omega
    repeat' walk1
    refine r_len (H5.blist hl) (by omega) ?_; intro t6 tk6
    repeat' walk1
    refine r_min H5 hA ?_; intro t7 h7 tk7 H7
    repeat' walk1
    refine r_range3 H7 (by decide) (PyProof.noPylong_small (by decide)) ?_; intro r8 h8 tk8 H8
    refine r_itR (n := (Builtin.Range.rangeSize (0 + (i : Int) * 1) (min 63 (vs.length : Int)) 10).toNat) (N := [_, _, _, _, _]) H8 (small_pos (by omega) (by omega) (by omega)) (rangeSize_toNat _ _ _) ?_; intro it2 h9 tk9 H9
    refine ⟨it2, _, _, _, h9, tk9, rfl, rfl, itr_range hA, H9, fun _ _ _ _ _ => trivial, ?_, ?_⟩
    · clear H5 H7 H8 H9 e1
      intro E3 C2 D2 i2 lv2 acc2 v2 h10 tk10 hi2 hv2 e2 hacc2 H10
      obtain ⟨t2, rfl⟩ := hv2
      have hlt : 0 + (i : Int) * 1 + (i2 : Int) * 10 < min 63 (vs.length : Int) := range_lt (by decide) (by rw [rangeSize_toNat]; omega)
      repeat' walk1
      obtain ⟨x, tx, hx⟩ := ints_get hi (k := (0 + (i : Int) * 1 + (i2 : Int) * 10).toNat) (by omega)
      refine r_item (H10.blist hl) (by omega) (by omega) hx ?_ (by with_unfolding_all rfl)
      walk1
      refine r_mod (by decide) ?_; intro t11 tk11
      exact ⟨h10, tk11, rfl, ⟨(x % 5040).toNat, t11, by rw [Int.toNat_of_nonneg (Int.emod_nonneg _ (by decide))]⟩, H10⟩
    · intro C2 D2 lv2 acc2 h10 tk10 hp2 H10
      refine uend_none (N := [_, _, _, _, _]) H10 fun h11 H11 => ?_
      simp only [List.cons_append, List.nil_append] at H11
      obtain ⟨xs, hxl, hxp⟩ := paired_nats hp2
      repeat' walk1
      have hpl : h11.PlainList D2 acc2.toArray := H11.at (j := 5) (d := plainD D2 acc2) rfl
      refine r_sum H11 hA hpl.isList hxp ?_; intro t12 h12 tk12 H12
      obtain ⟨n12, hn12⟩ := zs_sum_nonneg xs
      rw [hn12]
      repeat' walk1
      exact H12.sub (by simp)
  · intro C D lv acc h5 tk5 hp H5
    refine uend_none (N := [_, _]) H5 fun h6 H6 => ?_
    simp only [List.cons_append, List.nil_append] at H6
    obtain ⟨xs, hxl, hxp⟩ := paired_nats hp
    have H7 := H6.conv (j := 2) (d' := pintsD D (zs xs)) (by rfl) (by rfl) (fun p => ⟨_, p, hxp⟩)
    simp only [List.set_cons_zero, List.set_cons_succ] at H7
    exact k D xs h6 tk5 (by simp [hxl]) (H7.sub (by simp))
end Mine
end

section
open PySem PySem.W PySem.Calls PyProof.Rows
namespace Mine
local macro_rules | `(tactic| walk_at "eval Name") => `(tactic| (refine r_blt (by rfl) (by rfl) (by assumption) (by rfl) (by rfl) (by rfl) (by boot_by_name) (by decide) (by decide) ?_))
local macro_rules | `(tactic| walk_at "eval Name") => `(tactic| (refine r_glob (by rfl) (by rfl) (by assumption) (by rfl) (by rfl) (by decide) ?_))
local macro_rules | `(tactic| walk_at "eval Name") => `(tactic| (refine r_loc (by rfl) (by rfl) (by assumption) (by rfl) (by rfl) (by first | rfl | assumption) (by decide) ?_))
local macro_rules | `(tactic| walk_at "eval Name") => `(tactic| (refine r_cellM (by rfl) (by rfl) (by rfl) (by assumption) (by first | exact .head _ | exact .tail _ (.head _) | exact .tail _ (.tail _ (.head _)) | exact .tail _ (.tail _ (.tail _ (.head _))) | exact .tail _ (.tail _ (.tail _ (.tail _ (.head _)))) | exact .tail _ (.tail _ (.tail _ (.tail _ (.tail _ (.head _))))) | exact .tail _ (.tail _ (.tail _ (.tail _ (.tail _ (.tail _ (.head _)))))) | exact .tail _ (.tail _ (.tail _ (.tail _ (.tail _ (.tail _ (.tail _ (.head _)))))))) (by decide) ?_))
local macro_rules | `(tactic| walk_at "storeName") => `(tactic| (refine r_sto (by assumption) (by rfl) (by rfl) (by rfl) (by rfl) ?_; intro h' tk' H'; (try simp only [List.cons_append, List.nil_append, List.set_cons_zero, List.set_cons_succ] at H')))
local macro_rules | `(tactic| walk_at "newList") => `(tactic| (refine r_newList (by assumption) (by simp [sizeLine]) ?_; intro a' h' tk' H'; (try simp only [List.cons_append, List.nil_append, List.set_cons_zero, List.set_cons_succ] at H')))
local macro_rules | `(tactic| walk_at "eval Constant int") => `(tactic| (refine r_cint ?_; intro _ _))
local macro_rules | `(tactic| walk_at "eval Constant str") => `(tactic| (refine r_cstr ?_; intro _ _))
local macro_rules | `(tactic| walk_at "binaryOp Add int int") => `(tactic| (refine r_add ?_; intro _ _))
local macro_rules | `(tactic| walk_at "binaryOp Sub int int") => `(tactic| (refine r_sub ?_; intro _ _))
local macro_rules | `(tactic| walk_at "loadName") => `(tactic| (refine r_ldn (by rfl) (by rfl) (by assumption) (by rfl) (by rfl) (by first | rfl | assumption) ?_))
local macro_rules | `(tactic| walk_at "exec Assign") => `(tactic| (with_reducible refine plainObj_wpAny_Assign_Attribute ?_ (by with_unfolding_all rfl)))

local macro_rules | `(tactic| walk_at "binaryOp Mod int int") => `(tactic| (refine r_mod (by decide) ?_; intro _ _))
local macro_rules | `(tactic| walk_at "binaryOp FloorDiv int int") => `(tactic| (refine r_fdiv (by decide) (by decide) ?_; intro _ _))
local macro_rules | `(tactic| walk_at "eval ListComp") => `(tactic| (refine eval_LC (by rfl) (by rfl) ?_))

def white (n : Nat) : List Nat := if n / 3 % 4 = 0 then [32] else if n / 3 % 4 = 1 then [10] else if n / 3 % 4 = 2 then [9, 10] else [13]
def esc (k : List Nat) (c : Nat) : List Nat := if c ∈ k then [92, c] else [c]
def spell (cs : List Nat) (n : Nat) : List Nat :=
  if n % 3 = 0 then cs.flatMap (esc [32, 10, 34, 92]) ++ white n else if n % 3 = 1 then [34] ++ cs.flatMap (esc [34, 92]) ++ [34] ++ (white n).drop 1 else cs.flatMap (fun c => [92, c]) ++ white n
theorem range_getD {β : Type} (f : Nat → β) (cs : List Nat) : (List.range cs.length).map (fun i => f (cs.getD i 0)) = cs.map f := by
  apply List.ext_getElem
  · simp
  · intro i h1 h2
    simp at h1 h2 ⊢
    rw [List.getElem?_eq_getElem h1]; rfl
theorem stS_add (a b : List Nat) : stS a ++ stS b = stS (a ++ b) := by
  apply Str.ext'
  rw [Str.cps_append]
  simp [stS]
theorem bs_add (c : Nat) : Str.ofString "\\" ++ chS c = stS [92, c] := by
  rw [show Str.ofString "\\" = stS [92] from by decide, show chS c = stS [c] from rfl, stS_add]; rfl
theorem flat_len {f : Nat → List Nat} (hf : ∀ c, (f c).length ≤ 2) (cs : List Nat) : (cs.map f).flatten.length ≤ 2 * cs.length := by
  induction cs with
  | nil => simp
  | cons c cs ih => have := hf c; simp at ih ⊢; omega
theorem white_len (n : Nat) : (white n).length ≤ 2 := by unfold white; split; simp; split; simp; split <;> simp
theorem esc_len (k : List Nat) (c : Nat) : (esc k c).length ≤ 2 := by unfold esc; split <;> simp
theorem fnd_one (x : Str) (c : Nat) : (!(Builtin.Str.occurrences x (chS c) 0 x.length 1).isEmpty) = decide (c ∈ x.cps.toList) := StrLaws.found_one x c
theorem whites (n : Nat) : [Str.ofString " ", Str.ofString "\n", Str.ofString "\t\n", Str.ofString "\u000d"][n / 3 % 4]? = some (stS (white n)) := by
  have h : n / 3 % 4 < 4 := Nat.mod_lt _ (by decide)
  unfold white
  generalize n / 3 % 4 = m at *
  match m, h with
  | 0, _ => decide
  | 1, _ => decide
  | 2, _ => decide
  | 3, _ => decide
theorem white_slice (n : Nat) : Txt.slice (stS (white n)) (some 1) none = stS ((white n).drop 1) := by
  have h : n / 3 % 4 < 4 := Nat.mod_lt _ (by decide)
  unfold white
  generalize n / 3 % 4 = m at *
  match m, h with
  | 0, _ => decide
  | 1, _ => decide
  | 2, _ => decide
  | 3, _ => decide
set_option maxRecDepth 100000 in
set_option maxHeartbeats 8000000 in
theorem sp_call {w : World} {A : Around} {h : Heap} {gs : Array GenState} {dr : Drawn} {tk : Nat} {os : OsState} {R : Result → Shared → Prop} {cs : List Nat} {n : Nat} {t u : Tok}
    (G : Gd (KK w) h) (hcs : ∀ c ∈ cs, c < 128) (hsz : cs.length < 400) (hd : A.depth < 600) (hA : A.handled = none)
    (k : ∀ t' h' tk', Led (KK w) h h' [] [] → R (.ok (.ret (.str (stS (spell cs n)) t'))) ⟨h', gs, dr, tk', os⟩) :
    codeAny (model PG w) A (.call (.ref 73) ⟨[.str (stS cs) t, .int n u], []⟩) R ⟨h, gs, dr, tk, os⟩ := by
  refine r_enter (lv := [(("number" : Str), .int n u), (("word" : Str), .str (stS cs) t)]) (Led.start G) (Nat.lt_of_lt_of_le hd (by decide)) rfl rfl rfl rfl rfl rfl rfl rfl rfl rfl ?_
  intro E' L h₁ tk₁ H1
  repeat' walk1
  rename_i t2 _ t3 _ t4 _ t5 _ a2 h2 tk2 H2 _ _ _ _ _ _ _ _
  have p2 : h2.PlainList a2 [.str " " t2, .str "\n" t3, .str "\t\n" t4, .str "\u000d" t5].toArray := H2.at (j := 1) (d := plainD a2 _) rfl
  refine r_itemS (xs := [Str.ofString " ", Str.ofString "\n", Str.ofString "\t\n", Str.ofString "\u000d"]) (x := stS (white n)) p2.isList (.cons ⟨_, rfl⟩ (.cons ⟨_, rfl⟩ (.cons ⟨_, rfl⟩ (.cons ⟨_, rfl⟩ .nil)))) (by omega) (by omega) (by rw [show ((n : Int) / 3 % 4).toNat = n / 3 % 4 by omega]; exact whites n) ?_ (by with_unfolding_all rfl)
  intro t6
  have hasc : (stS cs).cps.all (· < 128) = true := by
    rw [show (stS cs).cps = cs.toArray from rfl, List.all_toArray, List.all_eq_true]
    exact fun c hc => decide_eq_true (hcs c hc)
  repeat' walk1
  · rename Led _ _ _ _ _ => H7
    have H8 := H7.sub (.cons_cons _ (.cons _ .slnil))
    refine comp_map (β := List Nat) (K := KK w) (g := h) cs.length (fun v z => SV v (stS z)) (fun i => esc [32, 10, 34, 92] (cs.getD i 0)) (fun _ => []) [nsD L [(("white" : Str), .str (stS (white n)) t6), (("number" : Str), .int n u), (("word" : Str), .str (stS cs) t)]] (by omega) (by intro _; rfl) (by rfl) (by rfl) (by rfl) (by rfl) (by rfl) ?_
    walk1
    refine r_iterS H8 hasc ?_; intro it h9 tk9 H9
    refine ⟨it, _, _, _, h9, tk9, rfl, rfl, itr_str (x := stS cs) (t := t) hA, H9, fun _ _ _ _ _ => trivial, ?_, ?_⟩
    · intro E2 C D i lv2 acc v h10 tk10 hi hv e1 hacc H10
      obtain ⟨c, u2, hc, rfl⟩ := hv
      have hg : cs.getD i 0 = c := by
        have : cs[i]? = some c := by simpa [stS] using hc
        rw [List.getD_eq_getElem?_getD, this]; rfl
      try dsimp only
      rw [hg]
      replace e1 : lv2.lookup ("sign" : Str) = some (.str (chS c) u2) := e1
      walk1
      walk1
      walk1
      walk1
      walk1
      walk1
      rw [fnd_one]
      have hd2 : decide (c ∈ (Str.ofString " \n\"\\").cps.toList) = decide (c ∈ [32, 10, 34, 92]) := by rw [show (Str.ofString " \n\"\\").cps.toList = [32, 10, 34, 92] from by decide]
      rw [hd2]
      by_cases hm : c ∈ [32, 10, 34, 92]
      · rw [decide_eq_true hm, if_pos rfl]
        unfold esc
        rw [if_pos hm]
        walk1
        walk1
        walk1
        refine r_addS (by rw [chS_len]; decide) ?_; intro t11 tk11
        rw [bs_add]
        exact ⟨_, _, rfl, ⟨_, rfl⟩, H10⟩
      · rw [decide_eq_false hm, if_neg Bool.false_ne_true]
        unfold esc
        rw [if_neg hm]
        walk1
        exact ⟨_, _, rfl, ⟨_, rfl⟩, H10⟩
    · intro C D lv2 acc h10 tk10 hp H10
      rw [range_getD (esc [32, 10, 34, 92])] at hp
      refine uend_none (N := [_]) H10 fun h11 H11 => ?_
      simp only [List.cons_append, List.nil_append] at H11
      repeat' walk1
      have hpl : h11.PlainList D acc.toArray := H11.at (j := 1) (d := plainD D acc) rfl
      refine r_join hpl.isList hp (by intro z hz; obtain ⟨c, _, rfl⟩ := List.mem_map.mp hz; unfold esc; split <;> simp) (by simp; omega) ?_; intro t12 tk12
      have hf := flat_len (esc_len [32, 10, 34, 92]) cs
      have hw := white_len n
      walk1
      refine r_addS (by rw [stS_len, stS_len, sizeLine_eq]; (try simp only [List.length_append, List.length_cons, List.length_nil]); omega) ?_; intro t13 tk13
      rw [stS_add]
      have hn : spell cs n = (List.map (esc [32, 10, 34, 92]) cs).flatten ++ white n := by unfold spell; rw [if_pos (by omega)]; rfl
      rw [← hn]
      exact k _ _ _ (H11.sub (List.nil_sublist _))
  · rename Led _ _ _ _ _ => H7
    have H8 := H7.sub (.cons_cons _ (.cons _ .slnil))
    refine comp_map (β := List Nat) (K := KK w) (g := h) cs.length (fun v z => SV v (stS z)) (fun i => esc [34, 92] (cs.getD i 0)) (fun _ => []) [nsD L [(("white" : Str), .str (stS (white n)) t6), (("number" : Str), .int n u), (("word" : Str), .str (stS cs) t)]] (by omega) (by intro _; rfl) (by rfl) (by rfl) (by rfl) (by rfl) (by rfl) ?_
    walk1
    refine r_iterS H8 hasc ?_; intro it h9 tk9 H9
    refine ⟨it, _, _, _, h9, tk9, rfl, rfl, itr_str (x := stS cs) (t := t) hA, H9, fun _ _ _ _ _ => trivial, ?_, ?_⟩
    · intro E2 C D i lv2 acc v h10 tk10 hi hv e1 hacc H10
      obtain ⟨c, u2, hc, rfl⟩ := hv
      have hg : cs.getD i 0 = c := by
        have : cs[i]? = some c := by simpa [stS] using hc
        rw [List.getD_eq_getElem?_getD, this]; rfl
      try dsimp only
      rw [hg]
      replace e1 : lv2.lookup ("sign" : Str) = some (.str (chS c) u2) := e1
      walk1
      walk1
      walk1
      walk1
      walk1
      walk1
      rw [fnd_one]
      have hd2 : decide (c ∈ (Str.ofString "\"\\").cps.toList) = decide (c ∈ [34, 92]) := by rw [show (Str.ofString "\"\\").cps.toList = [34, 92] from by decide]
      rw [hd2]
      by_cases hm : c ∈ [34, 92]
      · rw [decide_eq_true hm, if_pos rfl]
        unfold esc
        rw [if_pos hm]
        walk1
        walk1
        walk1
        refine r_addS (by rw [chS_len]; decide) ?_; intro t11 tk11
        rw [bs_add]
        exact ⟨_, _, rfl, ⟨_, rfl⟩, H10⟩
      · rw [decide_eq_false hm, if_neg Bool.false_ne_true]
        unfold esc
        rw [if_neg hm]
        walk1
        exact ⟨_, _, rfl, ⟨_, rfl⟩, H10⟩
    · intro C D lv2 acc h10 tk10 hp H10
      rw [range_getD (esc [34, 92])] at hp
      refine uend_none (N := [_]) H10 fun h11 H11 => ?_
      simp only [List.cons_append, List.nil_append] at H11
      repeat' walk1
      have hpl : h11.PlainList D acc.toArray := H11.at (j := 1) (d := plainD D acc) rfl
      refine r_join hpl.isList hp (by intro z hz; obtain ⟨c, _, rfl⟩ := List.mem_map.mp hz; unfold esc; split <;> simp) (by simp; omega) ?_; intro t12 tk12
      have hf := flat_len (esc_len [34, 92]) cs
      have hw := white_len n
      rw [show Str.ofString "\"" = stS [34] from by decide]
      refine r_addS (by rw [stS_len, stS_len, sizeLine_eq]; (try simp only [List.length_append, List.length_cons, List.length_nil]); omega) ?_; intro t13 tk13
      rw [stS_add]
      walk1
      refine r_addS (by rw [stS_len, stS_len, sizeLine_eq]; (try simp only [List.length_append, List.length_cons, List.length_nil]); omega) ?_; intro t14 tk14
      rw [stS_add]
      repeat' walk1
      refine r_strFrom (i := 1) H11 (by rw [stS_len]; omega) (by with_unfolding_all rfl) (by intro _; with_unfolding_all rfl) ?_
      intro t15 h15 tk15 H15
      rw [white_slice]
      refine r_addS (by rw [stS_len, stS_len, sizeLine_eq]; simp only [List.length_append, List.length_cons, List.length_nil, List.length_drop]; omega) ?_; intro t16 tk16
      rw [stS_add]
      have hn : spell cs n = [34] ++ (List.map (esc [34, 92]) cs).flatten ++ [34] ++ (white n).drop 1 := by unfold spell; rw [if_neg (by omega), if_pos (by omega)]; rfl
      rw [← hn]
      exact k _ _ _ (H15.sub (List.nil_sublist _))
  · rename Led _ _ _ _ _ => H7
    have H8 := H7.sub (.cons_cons _ (.cons _ .slnil))
    refine comp_map (β := List Nat) (K := KK w) (g := h) cs.length (fun v z => SV v (stS z)) (fun i => (fun c => [92, c]) (cs.getD i 0)) (fun _ => []) [nsD L [(("white" : Str), .str (stS (white n)) t6), (("number" : Str), .int n u), (("word" : Str), .str (stS cs) t)]] (by omega) (by intro _; rfl) (by rfl) (by rfl) (by rfl) (by rfl) (by rfl) ?_
    walk1
    refine r_iterS H8 hasc ?_; intro it h9 tk9 H9
    refine ⟨it, _, _, _, h9, tk9, rfl, rfl, itr_str (x := stS cs) (t := t) hA, H9, fun _ _ _ _ _ => trivial, ?_, ?_⟩
    · intro E2 C D i lv2 acc v h10 tk10 hi hv e1 hacc H10
      obtain ⟨c, u2, hc, rfl⟩ := hv
      have hg : cs.getD i 0 = c := by
        have : cs[i]? = some c := by simpa [stS] using hc
        rw [List.getD_eq_getElem?_getD, this]; rfl
      try dsimp only
      rw [hg]
      replace e1 : lv2.lookup ("sign" : Str) = some (.str (chS c) u2) := e1
      walk1
      walk1
      walk1
      refine r_addS (by rw [chS_len]; decide) ?_; intro t11 tk11
      rw [bs_add]
      exact ⟨_, _, rfl, ⟨_, rfl⟩, H10⟩
    · intro C D lv2 acc h10 tk10 hp H10
      rw [range_getD (fun c => [92, c])] at hp
      refine uend_none (N := [_]) H10 fun h11 H11 => ?_
      simp only [List.cons_append, List.nil_append] at H11
      repeat' walk1
      have hpl : h11.PlainList D acc.toArray := H11.at (j := 1) (d := plainD D acc) rfl
      refine r_join hpl.isList hp (by intro z hz; obtain ⟨c, _, rfl⟩ := List.mem_map.mp hz; simp) (by simp; omega) ?_; intro t12 tk12
      have hf := flat_len (f := fun c => [92, c]) (fun _ => by simp) cs
      have hw := white_len n
      walk1
      refine r_addS (by rw [stS_len, stS_len, sizeLine_eq]; (try simp only [List.length_append, List.length_cons, List.length_nil]); omega) ?_; intro t13 tk13
      rw [stS_add]
      have hn : spell cs n = (List.map (fun c => [92, c]) cs).flatten ++ white n := by unfold spell; rw [if_neg (by omega), if_neg (by omega)]; rfl
      rw [← hn]
      exact k _ _ _ (H11.sub (List.nil_sublist _))
end Mine
end

section
open PySem PySem.W PySem.Calls PyProof.Rows
namespace Mine
def W4 : List (List Nat) := [[97], [98, 32, 99], [34], [92, 10]]
theorem white_ws (n : Nat) : ∀ c ∈ (white n).drop 1, isWs c = true := by
  have h : n / 3 % 4 < 4 := Nat.mod_lt _ (by decide)
  unfold white
  generalize n / 3 % 4 = m at *
  match m, h with
  | 0, _ => decide
  | 1, _ => decide
  | 2, _ => decide
  | 3, _ => decide
theorem tok_ws : ∀ (pre l : List Nat), (∀ c ∈ pre, isWs c = true) → tok (pre ++ l) = tok l
  | [], _, _ => rfl
  | c :: pre, l, h => by
    show tok (c :: (pre ++ l)) = _
    conv => lhs; unfold tok
    rw [if_pos (h c (.head _))]
    exact tok_ws pre l fun d hd => h d (.tail _ hd)
theorem tokU_cons (acc : List Nat) (c : Nat) (r : List Nat) : tokU acc (c :: r) = if isWs c then some (acc, r) else if c = 92 then (match r with | [] => none | c' :: r' => tokU (acc ++ [c']) r') else tokU (acc ++ [c]) r := by
  conv => lhs; unfold tokU
  first | done | (cases r <;> rfl)
theorem tokQ_cons (acc : List Nat) (c : Nat) (r : List Nat) : tokQ acc (c :: r) = if c = 34 then some (acc, r) else if c = 92 then (match r with | [] => none | c' :: r' => tokQ (acc ++ [c']) r') else tokQ (acc ++ [c]) r := by
  conv => lhs; unfold tokQ
  first | done | (cases r <;> rfl)
theorem tok_cons (c : Nat) (r : List Nat) : tok (c :: r) = if isWs c then tok r else if c = 34 then tokQ [] r else if c = 92 then (match r with | [] => none | c' :: r' => tokU [c'] r') else tokU [c] r := by
  conv => lhs; unfold tok
  first | done | (cases r <;> rfl)
set_option linter.unusedSimpArgs false in
theorem tok_spell (m n : Nat) (rest : List Nat) : tok (spell (W4.getD (m % 4) []) n ++ rest) = some (W4.getD (m % 4) [], (white n).drop 1 ++ rest) := by
  have h : m % 4 < 4 := Nat.mod_lt _ (by decide)
  have h2 : n / 3 % 4 < 4 := Nat.mod_lt _ (by decide)
  have h3 : n % 3 < 3 := Nat.mod_lt _ (by decide)
  unfold spell white
  generalize m % 4 = a at *
  generalize n / 3 % 4 = b at *
  generalize n % 3 = c at *
  match a, h, b, h2, c, h3 with
  | 0, _, 0, _, 0, _ => simp [tok_cons, tokU_cons, tokQ_cons, esc, W4, isWs]
  | 0, _, 0, _, 1, _ => simp [tok_cons, tokU_cons, tokQ_cons, esc, W4, isWs]
  | 0, _, 0, _, 2, _ => simp [tok_cons, tokU_cons, tokQ_cons, esc, W4, isWs]
  | 0, _, 1, _, 0, _ => simp [tok_cons, tokU_cons, tokQ_cons, esc, W4, isWs]
  | 0, _, 1, _, 1, _ => simp [tok_cons, tokU_cons, tokQ_cons, esc, W4, isWs]
  | 0, _, 1, _, 2, _ => simp [tok_cons, tokU_cons, tokQ_cons, esc, W4, isWs]
  | 0, _, 2, _, 0, _ => simp [tok_cons, tokU_cons, tokQ_cons, esc, W4, isWs]
  | 0, _, 2, _, 1, _ => simp [tok_cons, tokU_cons, tokQ_cons, esc, W4, isWs]
  | 0, _, 2, _, 2, _ => simp [tok_cons, tokU_cons, tokQ_cons, esc, W4, isWs]
  | 0, _, 3, _, 0, _ => simp [tok_cons, tokU_cons, tokQ_cons, esc, W4, isWs]
  | 0, _, 3, _, 1, _ => simp [tok_cons, tokU_cons, tokQ_cons, esc, W4, isWs]
  | 0, _, 3, _, 2, _ => simp [tok_cons, tokU_cons, tokQ_cons, esc, W4, isWs]
  | 1, _, 0, _, 0, _ => simp [tok_cons, tokU_cons, tokQ_cons, esc, W4, isWs]
  | 1, _, 0, _, 1, _ => simp [tok_cons, tokU_cons, tokQ_cons, esc, W4, isWs]
  | 1, _, 0, _, 2, _ => simp [tok_cons, tokU_cons, tokQ_cons, esc, W4, isWs]
  | 1, _, 1, _, 0, _ => simp [tok_cons, tokU_cons, tokQ_cons, esc, W4, isWs]
  | 1, _, 1, _, 1, _ => simp [tok_cons, tokU_cons, tokQ_cons, esc, W4, isWs]
  | 1, _, 1, _, 2, _ => simp [tok_cons, tokU_cons, tokQ_cons, esc, W4, isWs]
  | 1, _, 2, _, 0, _ => simp [tok_cons, tokU_cons, tokQ_cons, esc, W4, isWs]
  | 1, _, 2, _, 1, _ => simp [tok_cons, tokU_cons, tokQ_cons, esc, W4, isWs]
  | 1, _, 2, _, 2, _ => simp [tok_cons, tokU_cons, tokQ_cons, esc, W4, isWs]
  | 1, _, 3, _, 0, _ => simp [tok_cons, tokU_cons, tokQ_cons, esc, W4, isWs]
  | 1, _, 3, _, 1, _ => simp [tok_cons, tokU_cons, tokQ_cons, esc, W4, isWs]
  | 1, _, 3, _, 2, _ => simp [tok_cons, tokU_cons, tokQ_cons, esc, W4, isWs]
  | 2, _, 0, _, 0, _ => simp [tok_cons, tokU_cons, tokQ_cons, esc, W4, isWs]
  | 2, _, 0, _, 1, _ => simp [tok_cons, tokU_cons, tokQ_cons, esc, W4, isWs]
  | 2, _, 0, _, 2, _ => simp [tok_cons, tokU_cons, tokQ_cons, esc, W4, isWs]
  | 2, _, 1, _, 0, _ => simp [tok_cons, tokU_cons, tokQ_cons, esc, W4, isWs]
  | 2, _, 1, _, 1, _ => simp [tok_cons, tokU_cons, tokQ_cons, esc, W4, isWs]
  | 2, _, 1, _, 2, _ => simp [tok_cons, tokU_cons, tokQ_cons, esc, W4, isWs]
  | 2, _, 2, _, 0, _ => simp [tok_cons, tokU_cons, tokQ_cons, esc, W4, isWs]
  | 2, _, 2, _, 1, _ => simp [tok_cons, tokU_cons, tokQ_cons, esc, W4, isWs]
  | 2, _, 2, _, 2, _ => simp [tok_cons, tokU_cons, tokQ_cons, esc, W4, isWs]
  | 2, _, 3, _, 0, _ => simp [tok_cons, tokU_cons, tokQ_cons, esc, W4, isWs]
  | 2, _, 3, _, 1, _ => simp [tok_cons, tokU_cons, tokQ_cons, esc, W4, isWs]
  | 2, _, 3, _, 2, _ => simp [tok_cons, tokU_cons, tokQ_cons, esc, W4, isWs]
  | 3, _, 0, _, 0, _ => simp [tok_cons, tokU_cons, tokQ_cons, esc, W4, isWs]
  | 3, _, 0, _, 1, _ => simp [tok_cons, tokU_cons, tokQ_cons, esc, W4, isWs]
  | 3, _, 0, _, 2, _ => simp [tok_cons, tokU_cons, tokQ_cons, esc, W4, isWs]
  | 3, _, 1, _, 0, _ => simp [tok_cons, tokU_cons, tokQ_cons, esc, W4, isWs]
  | 3, _, 1, _, 1, _ => simp [tok_cons, tokU_cons, tokQ_cons, esc, W4, isWs]
  | 3, _, 1, _, 2, _ => simp [tok_cons, tokU_cons, tokQ_cons, esc, W4, isWs]
  | 3, _, 2, _, 0, _ => simp [tok_cons, tokU_cons, tokQ_cons, esc, W4, isWs]
  | 3, _, 2, _, 1, _ => simp [tok_cons, tokU_cons, tokQ_cons, esc, W4, isWs]
  | 3, _, 2, _, 2, _ => simp [tok_cons, tokU_cons, tokQ_cons, esc, W4, isWs]
  | 3, _, 3, _, 0, _ => simp [tok_cons, tokU_cons, tokQ_cons, esc, W4, isWs]
  | 3, _, 3, _, 1, _ => simp [tok_cons, tokU_cons, tokQ_cons, esc, W4, isWs]
  | 3, _, 3, _, 2, _ => simp [tok_cons, tokU_cons, tokQ_cons, esc, W4, isWs]
theorem w4_ne (m : Nat) : W4.getD (m % 4) [] ≠ [] := by
  have h : m % 4 < 4 := Nat.mod_lt _ (by decide)
  generalize m % 4 = a at *
  match a, h with
  | 0, _ => decide
  | 1, _ => decide
  | 2, _ => decide
  | 3, _ => decide
theorem spell_ge (cs : List Nat) (n : Nat) : ((white n).drop 1).length ≤ (spell cs n).length := by
  unfold spell
  split
  · rw [List.length_append, List.length_drop]; omega
  · split
    · simp only [List.length_append, List.length_cons, List.length_nil, List.length_drop]; omega
    · rw [List.length_append, List.length_drop]; omega
theorem toks_of : ∀ (l : List (Nat × Nat)) (pre : List Nat), (∀ c ∈ pre, isWs c = true) → Toks (pre ++ (l.map fun p => spell (W4.getD (p.1 % 4) []) p.2).flatten) (l.map fun p => W4.getD (p.1 % 4) []) []
  | [], pre, h => .done (by rw [tok_ws _ _ h]; rfl)
  | (m, n) :: l, pre, h => by
    rw [List.map_cons, List.map_cons, List.flatten_cons]
    refine .more (r := (white n).drop 1 ++ (l.map fun p => spell (W4.getD (p.1 % 4) []) p.2).flatten) ?_ (w4_ne m) ?_ (toks_of l _ (white_ws n))
    · rw [tok_ws _ _ h]; exact tok_spell m n _
    · have := spell_ge (W4.getD (m % 4) []) n
      rw [List.length_append, List.length_append, List.length_append]
      show _ ≤ _ + ((spell (W4.getD (m % 4) []) n).length + _)
      omega
theorem count_nls (cs : List Nat) : Txt.count (stS cs) (chS 10) = nls cs := by
  rw [show chS 10 = (⟨#[10]⟩ : Str) from rfl, count_cnt]
  show cnt 10 cs = nls cs
  induction cs with
  | nil => rfl
  | cons c cs ih =>
    rw [nls_cons, ← ih, cnt_cons]
theorem w4_get (n : Nat) : (W4.map stS)[n % 4]? = some (stS (W4.getD (n % 4) [])) := by
  have h : n % 4 < 4 := Nat.mod_lt _ (by decide)
  generalize n % 4 = m at *
  match m, h with
  | 0, _ => rfl
  | 1, _ => rfl
  | 2, _ => rfl
  | 3, _ => rfl
theorem w4_len (n : Nat) : (W4.getD (n % 4) []).length ≤ 3 ∧ ∀ c ∈ W4.getD (n % 4) [], c < 128 := by
  have h : n % 4 < 4 := Nat.mod_lt _ (by decide)
  generalize n % 4 = m at *
  match m, h with
  | 0, _ => decide
  | 1, _ => decide
  | 2, _ => decide
  | 3, _ => decide
theorem spell_len (cs : List Nat) (n : Nat) : (spell cs n).length ≤ 2 * cs.length + 4 := by
  have h1 := flat_len (esc_len [32, 10, 34, 92]) cs
  have h2 := flat_len (esc_len [34, 92]) cs
  have h3 := flat_len (f := fun c => [92, c]) (fun _ => by simp) cs
  have h4 := white_len n
  unfold spell
  rw [List.flatMap_def, List.flatMap_def, List.flatMap_def]
  split
  · rw [List.length_append]; omega
  · split
    · simp only [List.length_append, List.length_cons, List.length_nil, List.length_drop]; omega
    · rw [List.length_append]; omega
theorem paired_map : ∀ {acc : List Value} {zs : List (List Nat)}, Paired (fun v z => SV v (stS z)) acc zs → Paired SV acc (zs.map stS)
  | _, _, .nil => .nil
  | _, _, .cons h t => .cons h (paired_map t)
theorem r_itemZ {prog : Program} {w : World} {A : Around} {E : Value → Shared → Prop} {h : Heap} {gs : Array GenState} {dr : Drawn} {tk : Nat} {os : OsState} {value slice : PySem.Expr} {l : Addr} {vs : List Value} {xs : List Int} {k : Int} {u : Tok} {x : Int} {Q : Value → Shared → Prop} (hl : h.IsList l vs.toArray) (hp : Paired IV vs xs) (h0 : 0 ≤ k) (hhi : k < 2 ^ 63) (hx : xs[k.toNat]? = some x)
    (q : ∀ t, Q (.int x t) ⟨h, gs, dr, tk, os⟩)
    (hs : subscripted slice false (.ref l) (.int k u) = operate [.ref l, .int k u] (getItem (.ref l) (.int k u))) :
    wpAny (model prog w) A (subscriptTail value slice (.ref l) (.int k u)) Q E ⟨h, gs, dr, tk, os⟩ := by
  obtain ⟨v, hv, t, rfl⟩ := Paired.get hp hx
  exact r_item hl h0 hhi hv (q t) hs
end Mine
end

section
open PySem PySem.W PySem.Calls PyProof.Rows
namespace Mine
def rws (xs : List Str) : List (List Str) := [] :: mrows [] xs
structure Pl (xs : List Str) : Prop where
  ok : mok [] xs = true
  last : (rws xs)[5]? = some (xs.reverse.foldl rstep [])
  ne : 0 < (xs.reverse.foldl rstep []).length ∧ (xs.reverse.foldl rstep []).length < 900
  laps : laps (xs.reverse.foldl rstep []) = (List.range 5).map fun i => ((rws xs).getD (4 - i) []).length
def drw (hs : List Nat) (i : Nat) : List Nat := W4.getD (hs.getD i 0 % 4) []
def txt (hs : List Nat) : List Nat := ((List.range 5).map fun i => spell (drw hs (4 - i)) (hs.getD (9 - i) 0)).flatten
def d5 (hs : List Nat) : List Str := ((List.range 5).map (drw hs)).map stS
theorem txt_len (hs : List Nat) : (txt hs).length < 5000 := by
  have key : ∀ i, (spell (drw hs (4 - i)) (hs.getD (9 - i) 0)).length ≤ 10 := by
    intro i
    have := spell_len (drw hs (4 - i)) (hs.getD (9 - i) 0)
    have := (w4_len (hs.getD (4 - i) 0)).1
    unfold drw at *
    omega
  unfold txt
  have h0 := key 0; have h1 := key 1; have h2 := key 2; have h3 := key 3; have h4 := key 4
  simp only [List.range_succ, List.range_zero, List.nil_append, List.cons_append, List.map_cons, List.map_nil, List.flatten_cons, List.flatten_nil, List.length_append, List.length_nil]
  omega
theorem nls_le (cs : List Nat) : 0 ≤ nls cs ∧ nls cs ≤ cs.length := by
  unfold nls
  have := List.length_filter_le (· == 10) cs
  omega
theorem toks_txt (hs : List Nat) : Toks (txt hs) ((List.range 5).map fun i => drw hs (4 - i)) [] := by
  have := toks_of ((List.range 5).map fun i => (hs.getD (4 - i) 0, hs.getD (9 - i) 0)) [] (fun _ h => nomatch h)
  rw [List.map_map, List.map_map] at this
  exact this
theorem told_rev (hs : List Nat) : ((List.range 5).map fun i => drw hs (4 - i)).map stS = (d5 hs).reverse := by rfl
end Mine
namespace Mine
theorem r_unpL {prog : Program} {w : World} {A : Around} {E : Value → Shared → Prop} {K : Frag} {g h : Heap} {O N : List HD} {gs : Array GenState} {dr : Drawn} {tk : Nat} {os : OsState} {env : Env} {elts : List PySem.Expr} {k : Nat} {pos : Pos} {l : Addr} {vs : List Value} {Q : Unit → Shared → Prop}
    (H : Led K g h O N) (hA : A.handled = none) (hl : h.IsList l vs.toArray) (hn : (assignEach elts env).length = vs.length) (hstar : (assignEach elts env).findIdx? (·.1) = none)
    (q : ∀ h', Led K g h' O N → wpAny (model prog w) A (assignInOrder ((assignEach elts env).map (·.2)) vs) Q E ⟨h', gs, dr, tk, os⟩) :
    wpAny (model prog w) A (assign (.Tuple elts k pos) env (.ref l)) Q E ⟨h, gs, dr, tk, os⟩ := by
  rw [assign_Tuple]
  refine wpAny_bind (wpAny_standAt ?_)
  unfold unpack
  rw [hn, hstar]
  refine wpAny_bind (wpAny_holding ?_)
  have := kun_itemsOf (prog := prog) (w := w) (E := E) (s := ⟨h, gs, dr, tk, os⟩) (Q := fun items s => wpAny (model prog w) A (assignInOrder ((assignEach elts env).map (·.2)) items) Q E s) hA hl (fun h' he => q h' (H.ext fun b o e => he b o (Nat.ne_of_lt (Heap.lt_size e)) e))
  rw [List.size_toArray] at this
  exact this
end Mine
namespace Mine
section
variable {K : Frag} {g h h' : Heap} {O N : List HD}
theorem Led.backNw (H : Led K g h O N) {d : HD} (H' : Led K h h' [] [d]) : Led K g h' O (N ++ [d]) :=
  H.backNew (by have := H'.nd; simpa using this) H'
end
section
variable {prog : Program} {w : World} {A : Around} {E : Value → Shared → Prop} {s : Shared} {Q : Value → Shared → Prop}
theorem r_eqLn {l b : Addr} {vs us : List Value} (hl : s.heap.IsList l vs.toArray) (hb : s.heap.IsList b us.toArray) (hlen : vs.length ≠ us.length) (hu : A.units < cLine) (q : Q (.bool false) s) :
    wpAny (model prog w) A (compareOp .Eq (.ref l) (.ref b)) Q E s := PySem.SeqAt.RcAt.lists_lengths hl hb (by simpa using hlen) hu _ _ _ _ q
end
theorem paired_ints : ∀ {acc : List Value} {xs : List Nat}, Paired (fun v (n : Nat) => IV v n) acc xs → Paired IV acc (zs xs)
  | _, _, .nil => .nil
  | _, _, .cons h t => .cons h (paired_ints t)
end Mine
namespace Mine
theorem mrows_len : ∀ (xs r : List Str), (mrows r xs).length = xs.length
  | [], _ => rfl
  | y :: ys, r => by rw [mrows, List.length_cons, List.length_cons, mrows_len ys]
theorem rws_len (hs : List Nat) : (rws (d5 hs)).length = 6 := by
  unfold rws
  rw [List.length_cons, mrows_len]
  simp [d5]
end Mine
namespace Mine
theorem mok_len : ∀ (xs r : List Str), mok r xs = true → ∀ row ∈ mrows r xs, row.length < 400
  | [], _, _, _, hm => nomatch hm
  | y :: ys, r, h, row, hm => by
    rw [mok, Bool.and_eq_true, Bool.and_eq_true] at h
    rw [mrows] at hm
    rcases List.mem_cons.mp hm with rfl | hm
    · exact of_decide_eq_true h.2.1
    · exact mok_len ys _ h.2.2 row hm
theorem rws_get (xs : List Str) (h : mok [] xs = true) (i : Nat) : ((rws xs).getD i []).length < 400 := by
  rw [List.getD_eq_getElem?_getD]
  cases e : (rws xs)[i]? with
  | none => simp
  | some row =>
    have hm := List.mem_of_getElem? e
    unfold rws at hm
    rcases List.mem_cons.mp hm with rfl | hm
    · simp
    · exact mok_len _ _ h row hm
end Mine
end

section
open PySem PySem.W PySem.Calls PyProof.Rows
namespace Mine
local macro_rules | `(tactic| walk_at "eval Name") => `(tactic| (refine r_blt (by rfl) (by rfl) (by assumption) (by rfl) (by rfl) (by rfl) (by boot_by_name) (by decide) (by decide) ?_))
local macro_rules | `(tactic| walk_at "eval Name") => `(tactic| (refine r_glob (by rfl) (by rfl) (by assumption) (by rfl) (by rfl) (by decide) ?_))
local macro_rules | `(tactic| walk_at "eval Name") => `(tactic| (refine r_loc (by rfl) (by rfl) (by assumption) (by rfl) (by rfl) (by first | rfl | assumption) (by decide) ?_))
local macro_rules | `(tactic| walk_at "eval Name") => `(tactic| (refine r_cellM (by rfl) (by rfl) (by rfl) (by assumption) (by first | exact .head _ | exact .tail _ (.head _) | exact .tail _ (.tail _ (.head _)) | exact .tail _ (.tail _ (.tail _ (.head _))) | exact .tail _ (.tail _ (.tail _ (.tail _ (.head _)))) | exact .tail _ (.tail _ (.tail _ (.tail _ (.tail _ (.head _))))) | exact .tail _ (.tail _ (.tail _ (.tail _ (.tail _ (.tail _ (.head _)))))) | exact .tail _ (.tail _ (.tail _ (.tail _ (.tail _ (.tail _ (.tail _ (.head _)))))))) (by decide) ?_))
local macro_rules | `(tactic| walk_at "storeName") => `(tactic| (refine r_sto (by assumption) (by rfl) (by rfl) (by rfl) (by rfl) ?_; intro h' tk' H'; (try simp only [List.cons_append, List.nil_append, List.set_cons_zero, List.set_cons_succ] at H')))
local macro_rules | `(tactic| walk_at "newList") => `(tactic| (refine r_newList (by assumption) (by simp [sizeLine]) ?_; intro a' h' tk' H'; (try simp only [List.cons_append, List.nil_append, List.set_cons_zero, List.set_cons_succ] at H')))
local macro_rules | `(tactic| walk_at "eval Constant int") => `(tactic| (refine r_cint ?_; intro _ _))
local macro_rules | `(tactic| walk_at "eval Constant str") => `(tactic| (refine r_cstr ?_; intro _ _))
local macro_rules | `(tactic| walk_at "binaryOp Add int int") => `(tactic| (refine r_add ?_; intro _ _))
local macro_rules | `(tactic| walk_at "binaryOp Sub int int") => `(tactic| (refine r_sub ?_; intro _ _))
local macro_rules | `(tactic| walk_at "loadName") => `(tactic| (refine r_ldn (by rfl) (by rfl) (by assumption) (by rfl) (by rfl) (by first | rfl | assumption) ?_))
local macro_rules | `(tactic| walk_at "exec Assign") => `(tactic| (with_reducible refine plainObj_wpAny_Assign_Attribute ?_ (by with_unfolding_all rfl)))

local macro_rules | `(tactic| walk_at "binaryOp Mod int int") => `(tactic| (refine r_mod (by decide) ?_; intro _ _))
local macro_rules | `(tactic| walk_at "binaryOp FloorDiv int int") => `(tactic| (refine r_fdiv (by decide) (by decide) ?_; intro _ _))
local macro_rules | `(tactic| walk_at "eval ListComp") => `(tactic| (refine eval_LC (by rfl) (by rfl) ?_))
local macro_rules | `(tactic| walk_at "storeName") => `(tactic| ((first | refine r_stoC (j := 1) (by assumption) (by rfl) (by rfl) (by rfl) (by rfl) ?_ | refine r_stoC (j := 2) (by assumption) (by rfl) (by rfl) (by rfl) (by rfl) ?_ | refine r_stoC (j := 3) (by assumption) (by rfl) (by rfl) (by rfl) (by rfl) ?_ | refine r_stoC (j := 4) (by assumption) (by rfl) (by rfl) (by rfl) (by rfl) ?_ | refine r_stoC (j := 5) (by assumption) (by rfl) (by rfl) (by rfl) (by rfl) ?_ | refine r_stoC (j := 6) (by assumption) (by rfl) (by rfl) (by rfl) (by rfl) ?_ | refine r_stoC (j := 7) (by assumption) (by rfl) (by rfl) (by rfl) (by rfl) ?_ | refine r_stoC (j := 8) (by assumption) (by rfl) (by rfl) (by rfl) (by rfl) ?_); intro h' H'; (try simp only [List.cons_append, List.nil_append, List.set_cons_zero, List.set_cons_succ] at H')))

set_option maxRecDepth 100000 in
set_option maxHeartbeats 8000000 in
theorem la_call {w : World} {A : Around} {h : Heap} {gs : Array GenState} {dr : Drawn} {tk : Nat} {os : OsState} {R : Result → Shared → Prop} {l : Addr} {vs : List Value} {ns : List Int}
    (H : Led (KK w) h h [objD 75 (tabObj #[])] []) (hbm : ∃ mg, h.Ns mainGlobals mg ∧ h.BuiltinsAt mg 75) (hl : h.IsList l vs.toArray) (hi : IntsAre vs ns) (hsz : vs.length ≤ 63) (hd : A.depth < 400) (hu : A.units < 400) (hA : A.handled = none) (hP : ∀ hs, Pl (d5 hs))
    (k : ∀ h' tk' ps, Led (KK w) h h' [objD 75 (tabObj ps)] [] → R (.ok (.ret (.bool true))) ⟨h', gs, dr, tk', os⟩) :
    codeAny (model PG w) A (.call (.ref 120) ⟨[.ref l], []⟩) R ⟨h, gs, dr, tk, os⟩ := by
  refine r_enterN (lv := [(("script" : Str), .ref l)]) (D := fun L => [cellD (L + 4) none, cellD (L + 3) none, cellD (L + 2) none, cellD (L + 1) none]) (ns := ["rows", "drawn", "words", "heaps"]) H (Nat.lt_of_lt_of_le hd (by decide)) rfl rfl rfl rfl rfl (by intro _; rfl) (by decide) (by intro _; rfl) ?_ (by intro _; exact bindL_one (by rfl)) rfl rfl rfl ?_
  · intro L x hx
    cases List.mem_singleton.mp hx
    exact .inl (by rfl)
  intro E' L h₁ tk₁ H1
  have hl75 : l ≠ 75 := by
    rintro rfl
    obtain ⟨o, ho, hc, _⟩ := hl
    have h75 : h.get? 75 = some (tabObj #[]) := H.atO (j := 0) (d := objD 75 (tabObj #[])) rfl
    rw [h75] at ho; cases ho; cases hc
  have hlF : ∀ {h' : Heap} {o : Obj} {N : List HD}, Led (KK w) h h' [objD 75 o] N → h'.IsList l vs.toArray := fun H' => hl.at fun o e => H'.keep _ o e (by simpa [objD] using hl75)
  have hbF : ∀ {h' : Heap} {o : Obj} {N : List HD}, Led (KK w) h h' [objD 75 o] N → ∃ mg, h'.Ns mainGlobals mg ∧ h'.BuiltinsAt mg 75 := by
    intro h' o N H'
    obtain ⟨mg, hg, bm, ob, b1, b2, b3, b4, b5, b6⟩ := hbm
    exact ⟨mg, hg.at (fun o ho => H'.keep _ o ho (by simp [objD]; decide)), bm, ob, b1, b2, b3, b4, H'.keep _ _ b5 (by simpa [objD] using b4), b6⟩
  repeat' walk1
  refine callWith_K (K := KK w) H1.gd.frag (by rfl) ?_
  walk1
  walk1
  walk1
  refine ⟨H1.gd.frag, ?_⟩
  refine wpAny_call (hp_call H1.gd (hlF H1) hi hsz (by rw [deeper_depth']; omega) (by rw [deeper_units']; omega) hA ?_); intro hD hs h2 tk2 hs10 H2
  have H3 := H1.backNew (by simp [pintsD]) H2
  simp only [List.cons_append, List.nil_append] at H3
  clear H1 H2
  dsimp only
  repeat' walk1
  rename_i h3 _ t1 _ t2 _ t3 _ t4 _ aw h4 tk4 H4 h5 H5
  clear H3 H4
  have H6 := H5.conv (j := 6) (d' := strsD aw (W4.map stS)) (by rfl) (by rfl) (fun p => ⟨_, p, .cons ⟨t1, rfl⟩ (.cons ⟨t2, rfl⟩ (.cons ⟨t3, rfl⟩ (.cons ⟨t4, rfl⟩ .nil)))⟩)
  simp only [List.set_cons_zero, List.set_cons_succ] at H6
  clear H5
  refine comp_map (β := List Nat) (K := KK w) (g := h) 5 (fun v z => SV v (stS z)) (fun i => drw hs i) (fun _ => [objD 75 (tabObj #[])])
    [nsD L [(("script" : Str), .ref l)], cellD (L + 4) none, cellD (L + 3) none, cellD (L + 2) (some (.ref aw)), cellD (L + 1) (some (.ref hD)), pintsD hD (zs hs), strsD aw (W4.map stS)]
    (by omega) (by intro _; rfl) (by rfl) (by rfl) (by rfl) (by rfl) (by rfl) ?_
  repeat' walk1
  refine r_range1 H6 ?_; intro r7 h7 tk7 H7
  refine r_itR (n := 5) (N := [_, _, _, _, _, _, _]) H7 (by rfl) (by rfl) ?_; intro it8 h8 tk8 H8
  refine ⟨it8, _, _, _, h8, tk8, rfl, rfl, itr_range hA, H8, fun _ _ _ _ _ => trivial, ?_, ?_⟩
  · clear H6 H7 H8
    intro E2 C D i lv acc v h9 tk9 hi5 hv e1 hacc H9
    obtain ⟨t9, rfl⟩ := hv
    try simp only [List.cons_append, List.nil_append] at H9
    repeat' walk1
    obtain ⟨vh, lh, ph⟩ := H9.pints (j := 6) (by rfl)
    obtain ⟨vw, lw, pw⟩ := H9.strs (j := 7) (by rfl)
    refine r_itemZ lh.isList ph (by omega) (by omega) (by rw [show (0 + (i : Int) * 1).toNat = i by omega]; exact zs_get (by omega)) ?_ (by with_unfolding_all rfl); intro t10
    walk1
    refine r_mod (by decide) ?_; intro t11 tk11
    refine r_itemS lw.isList pw (by omega) (by omega) (x := stS (drw hs i)) (by rw [show (((hs.getD i 0 : Nat) : Int) % 4).toNat = hs.getD i 0 % 4 by omega]; exact w4_get _) ?_ (by with_unfolding_all rfl); intro t12
    exact ⟨_, _, rfl, ⟨_, rfl⟩, H9⟩
  · clear H6 H7 H8
    intro C D lv acc h9 tk9 hp H9
    refine uend_none (N := [_, _, _, _, _, _, _]) H9 fun h10 H10 => ?_
    simp only [List.cons_append, List.nil_append] at H10
    have H11 := H10.conv (j := 7) (d' := strsD D (((List.range 5).map (drw hs)).map stS)) (by rfl) (by rfl) (fun p => ⟨_, p, paired_map hp⟩)
    simp only [List.set_cons_zero, List.set_cons_succ] at H11
    clear H9 H10
    repeat' walk1
    rename Led _ _ _ _ _ => H12

    refine comp_map (β := List Nat) (K := KK w) (g := h) 5 (fun v z => SV v (stS z)) (fun i => spell (drw hs (4 - i)) (hs.getD (9 - i) 0)) (fun _ => [objD 75 (tabObj #[])])
      [nsD L [(("script" : Str), .ref l)], cellD (L + 4) none, cellD (L + 3) (some (.ref D)), cellD (L + 2) (some (.ref aw)), cellD (L + 1) (some (.ref hD)), pintsD hD (zs hs), strsD aw (W4.map stS), strsD D (((List.range 5).map (drw hs)).map stS)]
      (by omega) (by intro _; rfl) (by rfl) (by rfl) (by rfl) (by rfl) (by rfl) ?_
    repeat' walk1
    refine r_range3 H12 (by decide) (PyProof.noPylong_small (by decide)) ?_; intro r13 h13 tk13 H13
    refine r_itR (n := 5) (N := [_, _, _, _, _, _, _, _]) H13 (by rfl) (by rfl) ?_; intro it14 h14 tk14 H14
    refine ⟨it14, _, _, _, h14, tk14, rfl, rfl, itr_range hA, H14, fun _ _ _ _ _ => trivial, ?_, ?_⟩
    · clear H12 H13 H14
      intro E2 C2 D2 i lv2 acc2 v h15 tk15 hi5 hv e1 hacc H15
      obtain ⟨t15, rfl⟩ := hv
      try simp only [List.cons_append, List.nil_append] at H15
      repeat' walk1
      refine callWith_K (K := KK w) H15.gd.frag (by rfl) ?_
      repeat' walk1
      obtain ⟨vd, ld, pd⟩ := H15.strs (j := 8) (by rfl)
      refine r_itemS ld.isList pd (by omega) (by omega) (x := stS (drw hs (4 - i))) (by rw [show (4 + (i : Int) * -1).toNat = 4 - i by omega, List.getElem?_map, List.getElem?_map, List.getElem?_range (by omega)]; rfl) ?_ (by with_unfolding_all rfl); intro t16
      repeat' walk1
      obtain ⟨vh, lh, ph⟩ := H15.pints (j := 6) (by rfl)
      refine r_itemZ lh.isList ph (by omega) (by omega) (by rw [show (4 + (i : Int) * -1 + 5).toNat = 9 - i by omega]; exact zs_get (by omega)) ?_ (by with_unfolding_all rfl); intro t17
      walk1
      refine ⟨H15.gd.frag, ?_⟩
      have hw4 := w4_len (hs.getD (4 - i) 0)
      refine wpAny_call (sp_call H15.gd hw4.2 (by have := hw4.1; unfold drw; omega) (by rw [deeper_depth']; omega) hA ?_); intro t18 h18 tk18 H18
      exact ⟨_, _, rfl, ⟨_, rfl⟩, H15.back0 H18⟩
    · clear H12 H13 H14
      intro C2 D2 lv2 acc2 h15 tk15 hp2 H15
      refine uend_none (N := [_, _, _, _, _, _, _, _]) H15 fun h16 H16 => ?_
      simp only [List.cons_append, List.nil_append] at H16
      repeat' walk1
      have lD : h16.PlainList D2 acc2.toArray := H16.at (j := 8) (d := plainD D2 acc2) rfl
      refine r_join lD.isList hp2 (by
        intro z hz
        obtain ⟨i, hi5, rfl⟩ := List.mem_map.mp hz
        have := spell_len (drw hs (4 - i)) (hs.getD (9 - i) 0)
        have := (w4_len (hs.getD (4 - i) 0)).1
        unfold drw at *
        omega) (by simp) ?_; intro t17 tk17
      have H17 := H16.sub (N' := [nsD L [(("script" : Str), .ref l)], cellD (L + 4) none, cellD (L + 3) (some (.ref D)), strsD D (((List.range 5).map (drw hs)).map stS)]) (by simp)
      clear H16
      change wpAny _ _ (storeName _ _ (Value.str (stS (txt hs)) t17)) _ _ _
      repeat' walk1
      rename Led _ _ _ _ _ => H18
      clear H17
      refine callWith_K (K := KK w) H18.gd.frag (by rfl) ?_
      walk1
      walk1
      walk1
      refine ⟨H18.gd.frag, ?_⟩
      refine wpAny_call (lx_call (H18.calleeO (j := 0) rfl) (hbF H18) (by rw [deeper_depth']; omega) (by rw [deeper_units']; omega) hA (txt_len hs) ?_); intro a ps h19 tk19 H19
      have H20 := H18.backOO (j := 0) rfl (by rfl) H19
      simp only [List.set_cons_zero, List.cons_append, List.nil_append] at H20
      clear H18 H19
      dsimp only
      repeat' walk1
      rename Led _ _ _ _ _ => H21
      clear H20
      refine callWith_K (K := KK w) H21.gd.frag (by rfl) ?_
      walk1
      walk1
      walk1
      refine ⟨H21.gd.frag, ?_⟩
      have hnl := nls_le (txt hs)
      have htl := txt_len hs
      refine wpAny_call (rw_call (H21.calleeN (j := 4) (by rfl)) (by rw [deeper_depth']; omega) (by rw [deeper_units']; omega) hA htl (by omega) (toks_txt hs) (by simp) ?_); intro tl rl D22 h22 tk22 H22
      have H23 := H21.backNN (j := 4) (by rfl) (by rfl) H22
      rw [told_rev] at H23
      simp only [List.set_cons_zero, List.set_cons_succ, List.cons_append, List.nil_append] at H23
      clear H21 H22
      dsimp only
      have l23 : h22.PlainList D22 [.ref tl, .ref rl].toArray := H23.at (j := 7) (d := plainD D22 _) rfl
      refine r_unpL H23 hA l23.isList (by rfl) (by rfl) ?_; intro h24 H24
      refine wpAny_bind (wpAny_holding (wpAny_assign_Name ?_))
      repeat' walk1
      rename Led _ _ _ _ _ => H25
      clear H23 H24 l23
      obtain ⟨v25, l25, p25⟩ := H25.strs (j := 3) (by rfl)
      refine r_slcR H25 l25.isList p25 (by simp) (.int _ _) (by rfl) ?_; intro D26 h26 tk26 H26
      simp only [List.cons_append, List.nil_append] at H26
      obtain ⟨v27, l27, p27⟩ := H26.strs (j := 5) (by rfl)
      obtain ⟨v28, l28, p28⟩ := H26.strs (j := 8) (by rfl)
      refine r_neSS l27.isList p27 l28.isList p28 (by rw [deeper_units']; show _ < 9900; omega) ?_
      rw [decide_eq_true (show (d5 hs).reverse = (List.map stS (List.map (drw hs) (List.range 5))).reverse from rfl)]
      have H29 := H26.sub (N' := [nsD L [("line", .ref rl), ("told", .ref tl), ("lexer", .ref a.x), ("text", .str (stS (txt hs)) t17), ("script", .ref l)], cellD (L + 4) none, cellD (L + 3) (some (.ref D)), strsD D (((List.range 5).map (drw hs)).map stS), lexD w a [] [] (1 + nls (txt hs)), strsD rl ((d5 hs).reverse.foldl rstep [])]) (by simp)
      clear H25 H26 l25 p25 l27 p27 l28 p28
      walk1
      rw [if_neg (by decide)]
      walk1
      walk1
      walk1
      walk1
      have L29 : LexP w a [] [] (1 + nls (txt hs)) h26 := H29.at (j := 4) (d := lexD w a [] [] (1 + nls (txt hs))) rfl
      refine r_lnA H29.gd L29 ?_; intro t30 tk30
      repeat' walk1
      · rename_i hne
        exact absurd (by rw [chS_nl, count_nls, nls_nil]; omega) hne
      · obtain ⟨pok, plast, pne, plaps⟩ := hP hs
        change (rws (d5 hs))[5]? = some ((d5 hs).reverse.foldl rstep []) at plast
        refine callWith_K (K := KK w) H29.gd.frag (by rfl) ?_
        walk1
        walk1
        walk1
        refine ⟨H29.gd.frag, ?_⟩
        obtain ⟨v31, l31, p31⟩ := H29.strs (j := 3) (by rfl)
        refine wpAny_call (ms_call H29.gd l31.isList p31 (by rw [deeper_depth']; omega) (by rw [deeper_units']; omega) hA (by simp) pok ?_); intro D32 as h32 tk32 H32
        have H33 := H29.backNw H32
        simp only [List.cons_append, List.nil_append] at H33
        clear H29 H32 L29 l31 p31
        dsimp only
        repeat' walk1
        rename Led _ _ _ _ _ => H34
        rename_i e34 h34 tk34
        obtain ⟨q1, q2⟩ : (rowsD D32 as (rws (d5 hs))).P h34 := H34.at (j := 6) rfl
        have hal : as.length = 6 := by rw [q2.length]; exact rws_len hs
        have l34 : h34.PlainList e34 ([] : List Value).toArray := H34.at (j := 7) (d := plainD e34 []) rfl
        refine r_eqLn q1.isList l34.isList (by simp [hal]) (by rw [deeper_units']; show _ < 9900; omega) ?_
        have H35 := H34.sub (N' := [nsD L [("line", .ref rl), ("told", .ref tl), ("lexer", .ref a.x), ("text", .str (stS (txt hs)) t17), ("script", .ref l)], cellD (L + 4) (some (.ref D32)), cellD (L + 3) (some (.ref D)), strsD rl ((d5 hs).reverse.foldl rstep []), rowsD D32 as (rws (d5 hs))]) (by simp [rws, d5])
        clear H33 H34
        walk1
        rw [if_neg (by decide)]
        repeat' walk1
        obtain ⟨b36, hb36, v36, l36, p36⟩ := Paired.get q2 plast
        refine r_item q1.isList (by decide) (by decide) (v := .ref b36) (by rw [List.getElem?_map]; show (as[5]?).map Value.ref = _; rw [hb36]; rfl) ?_ (by with_unfolding_all rfl)
        obtain ⟨v37, l37, p37⟩ := H35.strs (j := 3) (by rfl)
        refine r_neSS l37.isList p37 l36.isList p36 (by rw [deeper_units']; show _ < 9900; omega) ?_
        rw [decide_eq_true (rfl : (d5 hs).reverse.foldl rstep [] = (d5 hs).reverse.foldl rstep [])]
        walk1
        rw [if_neg (by decide)]
        repeat' walk1
        refine callWith_K (K := KK w) H35.gd.frag (by rfl) ?_
        walk1
        walk1
        walk1
        refine ⟨H35.gd.frag, ?_⟩
        refine wpAny_call (lp_call H35.gd l37 p37 (by rw [deeper_depth']; omega) (by rw [deeper_units']; omega) hA pne.2 pne.1 ?_); intro D38 h38 tk38 H38
        have H39 := H35.backNw H38
        simp only [List.cons_append, List.nil_append] at H39
        clear H35 H38 q1 q2 l36 p36 l37 p37
        dsimp only
        repeat' walk1
        refine comp_map (β := Nat) (K := KK w) (g := h) 5 (fun v n => IV v n) (fun i => ((rws (d5 hs)).getD (4 - i) []).length) (fun _ => [objD 75 (tabObj ps)])
          [nsD L [("line", .ref rl), ("told", .ref tl), ("lexer", .ref a.x), ("text", .str (stS (txt hs)) t17), ("script", .ref l)], cellD (L + 4) (some (.ref D32)), cellD (L + 3) (some (.ref D)), strsD rl ((d5 hs).reverse.foldl rstep []), rowsD D32 as (rws (d5 hs)), pintsD D38 (zs (laps ((d5 hs).reverse.foldl rstep [])))]
          (by omega) (by intro _; rfl) (by rfl) (by rfl) (by rfl) (by rfl) (by rfl) ?_
        repeat' walk1
        refine r_range3 H39 (by decide) (PyProof.noPylong_small (by decide)) ?_; intro r40 h40 tk40 H40
        refine r_itR (n := 5) (N := [_, _, _, _, _, _]) H40 (by rfl) (by rfl) ?_; intro it41 h41 tk41 H41
        refine ⟨it41, _, _, _, h41, tk41, rfl, rfl, itr_range hA, H41, fun _ _ _ _ _ => trivial, ?_, ?_⟩
        · clear H39 H40 H41
          intro E2 C2 D2 i lv2 acc2 v h42 tk42 hi5 hv e1 hacc H42
          obtain ⟨t42, rfl⟩ := hv
          try simp only [List.cons_append, List.nil_append] at H42
          repeat' walk1
          obtain ⟨q1, q2⟩ : (rowsD D32 as (rws (d5 hs))).P h42 := H42.at (j := 5) rfl
          have hg : (rws (d5 hs))[4 - i]? = some ((rws (d5 hs)).getD (4 - i) []) := by
            rw [List.getD_eq_getElem?_getD, List.getElem?_eq_getElem (by rw [rws_len]; omega)]; rfl
          obtain ⟨b43, hb43, v43, l43, p43⟩ := Paired.get q2 hg
          refine r_item q1.isList (by omega) (by omega) (v := .ref b43) (by rw [show (4 + (i : Int) * -1).toNat = 4 - i by omega, List.getElem?_map, hb43]; rfl) ?_ (by with_unfolding_all rfl)
          walk1
          have hln := p43.length
          have hlr := rws_get (d5 hs) pok (4 - i)
          refine r_len l43.isList (by omega) ?_; intro t44 tk44
          exact ⟨_, _, rfl, ⟨t44, by rw [hln]⟩, H42⟩
        · clear H39 H40 H41
          intro C2 D2 lv2 acc2 h42 tk42 hp2 H42
          refine uend_none (N := [_, _, _, _, _, _]) H42 fun h43 H43 => ?_
          simp only [List.cons_append, List.nil_append] at H43
          repeat' walk1
          obtain ⟨v44, l44, p44⟩ := H43.pints (j := 5) (by rfl)
          have l45 : h43.PlainList D2 acc2.toArray := H43.at (j := 6) (d := plainD D2 acc2) rfl
          refine r_eqII l44.isList p44 l45.isList (paired_ints hp2) (by rw [deeper_units']; show _ < 9900; omega) ?_
          rw [plaps, decide_eq_true rfl]
          exact k _ _ _ (H43.sub (List.nil_sublist _))
end Mine
end

section
open PySem PySem.W PySem.Calls PyProof.Rows
namespace Mine
namespace G
variable {α : Type} [DecidableEq α]
def ovIdx (p : List α) (t : List Nat) (i : Nat) : Nat → Nat → Nat
  | 0, _ => 0
  | f + 1, k => if p[i]? = p[k]? then k + 1 else if k = 0 then 0 else ovIdx p t i f (t.getD (k - 1) 0)
def ovRun (p : List α) : Nat → List Nat
  | 0 => List.replicate p.length 0
  | k + 1 => (ovRun p k).set (k + 1) (ovIdx p (ovRun p k) (k + 1) (k + 2) ((ovRun p k).getD k 0))
def ovT (p : List α) : List Nat := ovRun p (p.length - 1)
def grown (xs : List α) (y : α) : List α :=
  if (ovT (xs ++ [y])).getD xs.length 0 = 0 then xs ++ [y] ++ xs else xs ++ xs.drop ((ovT (xs ++ [y])).getD xs.length 0 - 1)
def laps (xs : List α) : List Nat := lapsC (ovT xs) xs.length ((ovT xs).getD (xs.length - 1) 0)
def mrows : List α → List α → List (List α)
  | _, [] => []
  | r, y :: ys => mirr (r ++ [y]) :: mrows (mirr (r ++ [y])) ys
def mok : List α → List α → Bool
  | _, [] => true
  | r, y :: ys => decide (mirr (r ++ [y]) = grown r y) && (decide ((mirr (r ++ [y])).length < 400) && mok (mirr (r ++ [y])) ys)
def rstep (row : List α) (y : α) : List α := row.flatMap (fun old => if old = y then [old] else [y, old]) ++ [y]
def rws (xs : List α) : List (List α) := [] :: mrows [] xs
def pl (xs : List α) : Bool :=
  mok [] xs && (decide ((rws xs)[5]? = some (xs.reverse.foldl rstep [])) && (decide (0 < (xs.reverse.foldl rstep []).length ∧ (xs.reverse.foldl rstep []).length < 900) &&
    decide (laps (xs.reverse.foldl rstep []) = (List.range 5).map fun i => ((rws xs).getD (4 - i) []).length)))
end G
theorem e_ovIdx (p : List Str) (t : List Nat) (i : Nat) : ∀ f k, G.ovIdx p t i f k = ovIdx p t i f k
  | 0, _ => rfl
  | f + 1, k => by rw [G.ovIdx, ovIdx, e_ovIdx p t i f]
theorem e_ovRun (p : List Str) : ∀ k, G.ovRun p k = ovRun p k
  | 0 => rfl
  | k + 1 => by rw [G.ovRun, ovRun, e_ovRun p k, e_ovIdx]
theorem e_ovT (p : List Str) : G.ovT p = ovT p := e_ovRun p _
theorem e_grown (xs : List Str) (y : Str) : G.grown xs y = grown xs y := by unfold G.grown grown; rw [e_ovT]
theorem e_laps (xs : List Str) : G.laps xs = laps xs := by unfold G.laps laps; rw [e_ovT]
theorem e_mrows : ∀ (xs r : List Str), G.mrows r xs = mrows r xs
  | [], _ => rfl
  | y :: ys, r => by rw [G.mrows, mrows, e_mrows ys]
theorem e_mok : ∀ (xs r : List Str), G.mok r xs = mok r xs
  | [], _ => rfl
  | y :: ys, r => by rw [G.mok, mok, e_mok ys, e_grown]
theorem e_rws (xs : List Str) : G.rws xs = rws xs := by unfold G.rws rws; rw [e_mrows]
theorem e_rstep : (G.rstep : List Str → Str → List Str) = rstep := rfl
theorem pl_of (xs : List Str) (h : G.pl xs = true) : Pl xs := by
  unfold G.pl at h
  simp only [Bool.and_eq_true] at h
  rw [e_mok, e_rws, e_rstep, e_laps] at h
  exact ⟨h.1, of_decide_eq_true h.2.1, of_decide_eq_true h.2.2.1, of_decide_eq_true h.2.2.2⟩
section
variable {α β : Type} [DecidableEq α] [DecidableEq β] {f : α → β} (hf : ∀ a b, f a = f b → a = b)
include hf
theorem m_inj : ∀ {l m : List α}, l.map f = m.map f → l = m
  | [], [], _ => rfl
  | [], _ :: _, h => by simp at h
  | _ :: _, [], h => by simp at h
  | a :: l, b :: m, h => by
    rw [List.map_cons, List.map_cons, List.cons.injEq] at h
    rw [hf a b h.1, m_inj h.2]
theorem m_iff (l m : List α) : (l.map f = m.map f) = (l = m) := propext ⟨m_inj hf, fun e => by rw [e]⟩
theorem m_opt (a b : Option α) : (a.map f = b.map f) = (a = b) := by
  refine propext ⟨fun h => ?_, fun e => by rw [e]⟩
  cases a <;> cases b <;> simp at h ⊢
  exact hf _ _ h
theorem m_mirCut : ∀ l : List α, mirCut (l.map f) = mirCut l
  | [] => rfl
  | x :: xs => by
    have ih := m_mirCut xs
    rw [List.map_cons, mirCut, mirCut, ih, ← List.map_cons, ← List.map_reverse]
    simp only [m_iff hf]
theorem m_mirr (l : List α) : mirr (l.map f) = (mirr l).map f := by
  unfold mirr
  rw [m_mirCut hf, List.map_append, List.map_reverse, List.map_take]
theorem m_ovIdx (p : List α) (t : List Nat) (i : Nat) : ∀ n k, G.ovIdx (p.map f) t i n k = G.ovIdx p t i n k
  | 0, _ => rfl
  | n + 1, k => by
    rw [G.ovIdx, G.ovIdx, m_ovIdx p t i n]
    simp only [List.getElem?_map, m_opt hf]
theorem m_ovRun (p : List α) : ∀ k, G.ovRun (p.map f) k = G.ovRun p k
  | 0 => by rw [G.ovRun, G.ovRun, List.length_map]
  | k + 1 => by rw [G.ovRun, G.ovRun, m_ovRun p k, m_ovIdx hf]
theorem m_ovT (p : List α) : G.ovT (p.map f) = G.ovT p := by unfold G.ovT; rw [m_ovRun hf, List.length_map]
theorem m_snoc (l : List α) (y : α) : l.map f ++ [f y] = (l ++ [y]).map f := by rw [List.map_append]; rfl
theorem m_grown (l : List α) (y : α) : G.grown (l.map f) (f y) = (G.grown l y).map f := by
  unfold G.grown
  rw [m_snoc hf, m_ovT hf, List.length_map, ← List.map_append, ← List.map_drop, ← List.map_append]
  split <;> rfl
theorem m_laps (l : List α) : G.laps (l.map f) = G.laps l := by unfold G.laps; rw [m_ovT hf, List.length_map]
theorem m_mrows : ∀ (l r : List α), G.mrows (r.map f) (l.map f) = (G.mrows r l).map (List.map f)
  | [], _ => rfl
  | y :: ys, r => by rw [List.map_cons, G.mrows, G.mrows, m_snoc hf, m_mirr hf, m_mrows ys, List.map_cons]
theorem m_mok : ∀ (l r : List α), G.mok (r.map f) (l.map f) = G.mok r l
  | [], _ => rfl
  | y :: ys, r => by
    rw [List.map_cons, G.mok, G.mok, m_snoc hf, m_mirr hf, m_mok ys, m_grown hf, List.length_map]
    simp only [m_iff hf]
theorem m_rstep (l : List α) (y : α) : G.rstep (l.map f) (f y) = (G.rstep l y).map f := by
  unfold G.rstep
  rw [List.map_append]
  congr 1
  induction l with
  | nil => rfl
  | cons x xs ih =>
    rw [List.map_cons, List.flatMap_cons, List.flatMap_cons, ih, List.map_append]
    congr 1
    by_cases h : x = y
    · rw [if_pos h, if_pos (by rw [h])]; rfl
    · rw [if_neg h, if_neg fun e => h (hf _ _ e)]; rfl
theorem m_fold : ∀ (ys l : List α), (ys.map f).foldl G.rstep (l.map f) = (ys.foldl G.rstep l).map f
  | [], _ => rfl
  | y :: ys, l => by rw [List.map_cons, List.foldl_cons, List.foldl_cons, m_rstep hf, m_fold ys]
theorem m_rws (l : List α) : G.rws (l.map f) = (G.rws l).map (List.map f) := by
  unfold G.rws
  have := m_mrows hf l []
  rw [List.map_nil] at this
  rw [this]; rfl
theorem m_pl (l : List α) : G.pl (l.map f) = G.pl l := by
  unfold G.pl
  have h1 := m_mok hf l []
  rw [List.map_nil] at h1
  have h2 := m_fold hf l.reverse []
  rw [List.map_nil] at h2
  rw [h1, ← List.map_reverse, h2, List.length_map, m_laps hf, m_rws hf, List.getElem?_map]
  congr 2
  · have : (Option.map (List.map f) (G.rws l)[5]? = some ((l.reverse.foldl G.rstep []).map f)) = ((G.rws l)[5]? = some (l.reverse.foldl G.rstep [])) := by
      refine propext ⟨fun h => ?_, fun h => by rw [h]; rfl⟩
      cases e : (G.rws l)[5]? with
      | none => rw [e] at h; simp at h
      | some r => rw [e] at h; simp only [Option.map_some, Option.some.injEq] at h; rw [m_inj hf h]
    simp only [this]
  · have : ∀ i, (((G.rws l).map (List.map f)).getD (4 - i) []).length = ((G.rws l).getD (4 - i) []).length := by
      intro i
      rw [List.getD_eq_getElem?_getD, List.getD_eq_getElem?_getD, List.getElem?_map]
      cases (G.rws l)[4 - i]? <;> simp
    simp only [this]
end
/-- every row of five words is like a row of five numbers, each at most its place -/
theorem pl_all (h : ∀ b < 2, ∀ c < 3, ∀ d < 4, ∀ e < 5, G.pl [0, b, c, d, e] = true) (xs : List Str) (hx : xs.length = 5) : G.pl xs = true := by
  have e1 : xs.attach.map Subtype.val = xs := List.attach_map_subtype_val xs
  have inj1 : ∀ a b : {x // x ∈ xs}, a.val = b.val → a = b := fun a b e => Subtype.ext e
  have inj2 : ∀ a b : {x // x ∈ xs}, xs.idxOf a.val = xs.idxOf b.val → a = b := by
    intro a b e
    apply Subtype.ext
    have ha := List.getElem_idxOf (List.idxOf_lt_length_iff.mpr a.2)
    have hb := List.getElem_idxOf (List.idxOf_lt_length_iff.mpr b.2)
    rw [← ha, ← hb]
    simp only [e]
  have h1 := m_pl inj1 xs.attach
  have h2 := m_pl (f := fun a : {x // x ∈ xs} => xs.idxOf a.val) inj2 xs.attach
  rw [e1] at h1
  rw [h1, ← h2]
  have e2 : xs.attach.map (fun a : {x // x ∈ xs} => xs.idxOf a.val) = xs.map (fun x => xs.idxOf x) := by
    conv => rhs; rw [← e1, List.map_map]
    rw [e1]; rfl
  rw [e2]
  obtain ⟨x0, x1, x2, x3, x4, rfl⟩ : ∃ x0 x1 x2 x3 x4, xs = [x0, x1, x2, x3, x4] := by
    match xs, hx with
    | [x0, x1, x2, x3, x4], _ => exact ⟨_, _, _, _, _, rfl⟩
  have le : ∀ (l m : List Str) (x : Str), (l ++ x :: m).idxOf x < l.length + 1 := by
    intro l m x
    rw [show l ++ x :: m = (l ++ [x]) ++ m by simp, List.idxOf_append, if_pos (by simp)]
    have : (l ++ [x]).idxOf x < (l ++ [x]).length := List.idxOf_lt_length_iff.mpr (by simp)
    simpa using this
  have l0 := le [] [x1, x2, x3, x4] x0
  have l1 := le [x0] [x2, x3, x4] x1
  have l2 := le [x0, x1] [x3, x4] x2
  have l3 := le [x0, x1, x2] [x4] x3
  have l4 := le [x0, x1, x2, x3] [] x4
  simp only [List.cons_append, List.nil_append, List.length_cons, List.length_nil, Nat.zero_add, Nat.reduceAdd] at l0 l1 l2 l3 l4
  simp only [List.map_cons, List.map_nil]
  rw [show [x0, x1, x2, x3, x4].idxOf x0 = 0 by omega]
  exact h _ l1 _ l2 _ l3 _ l4

set_option maxRecDepth 100000 in
theorem plc00 : ∀ d < 4, ∀ e < 5, G.pl [0, 0, 0, d, e] = true := by decide +kernel
set_option maxRecDepth 100000 in
theorem plc01 : ∀ d < 4, ∀ e < 5, G.pl [0, 0, 1, d, e] = true := by decide +kernel
set_option maxRecDepth 100000 in
theorem plc02 : ∀ d < 4, ∀ e < 5, G.pl [0, 0, 2, d, e] = true := by decide +kernel
set_option maxRecDepth 100000 in
theorem plc10 : ∀ d < 4, ∀ e < 5, G.pl [0, 1, 0, d, e] = true := by decide +kernel
set_option maxRecDepth 100000 in
theorem plc11 : ∀ d < 4, ∀ e < 5, G.pl [0, 1, 1, d, e] = true := by decide +kernel
set_option maxRecDepth 100000 in
theorem plc12 : ∀ d < 4, ∀ e < 5, G.pl [0, 1, 2, d, e] = true := by decide +kernel
theorem plc : ∀ b < 2, ∀ c < 3, ∀ d < 4, ∀ e < 5, G.pl [0, b, c, d, e] = true := by
  intro b hb c hc
  match b, hb, c, hc with
  | 0, _, 0, _ => exact plc00
  | 0, _, 1, _ => exact plc01
  | 0, _, 2, _ => exact plc02
  | 1, _, 0, _ => exact plc10
  | 1, _, 1, _ => exact plc11
  | 1, _, 2, _ => exact plc12
theorem plain (hs : List Nat) : Pl (d5 hs) := pl_of _ (pl_all plc _ (by simp [d5]))
end Mine
end

section
open PySem PySem.W PySem.Calls PyProof.Rows
namespace Mine
theorem good_true {c : ClaimW} {cl : Str → Option Addr} {mean : ExcName → Option Value} {args : List WData} {s₁ : Shared} {h' : Heap} {tk' : Nat} {ps : Array Value} {K : Frag} {P : Addr}
    (hg : s₁.gens = #[]) (hP : s₁.heap.get? P = some (tabObj #[])) (hct : isCodeTable s₁.heap P) (H : Led K s₁.heap h' [objD P (tabObj ps)] [])
    (hr : ∀ x, c.raises args x = false) (hp : c.post args (.bool true) args = true) :
    GoodWG c cl mean args s₁ (.ok (.ret (.bool true))) ⟨h', s₁.gens, s₁.drawn, tk', s₁.os⟩ := by
  have h1 : h'.get? P = some (tabObj ps) := H.atO (j := 0) (d := objD P (tabObj ps)) rfl
  have hk : ∀ b o, b ≠ P → s₁.heap.get? b = some o → h'.get? b = some o := fun b o hb e => H.keep b o e (by simpa [objD] using hb)
  refine ⟨.inl ⟨_, .bool true, [], rfl, hr, .bool true, hp, fun _ => ⟨.nil, fun _ ha => nomatch ha⟩⟩, ⟨fun b o e => ?_, fun b o e => ?_⟩, rfl, .of_eq hg⟩
  · by_cases hb : b = P
    · subst hb
      rw [hP] at e; cases e
      exact .inr (.inl ⟨hct, rfl, #[], ps, rfl, by rw [Array.empty_append]; exact h1⟩)
    · exact .inl (hk b o hb e)
  · by_cases hb : b = P
    · subst hb; exact ⟨_, h1⟩
    · exact ⟨o, hk b o hb e⟩
end Mine
open Mine
set_option maxRecDepth 100000 in
set_option maxHeartbeats 8000000 in
theorem PySem.Challenge.cw_qu0003_01_holds : PySem.Challenge.rw_qu0003_01.Holds := by
  refine hd01 ?_
  k_fill
  intro w s₀ s₁ mg mb G Y fa o pm cd doc dV kV ho hd hcd hD hmg hg args vals as hpre hlay hrd hwl hlo
  have KX := km_in_of Y
  km_tabs Y
  refine Ground.open G ?_
  intro T B D TE TW
  wrow_args hpre hlay hrd hwl hlo
  generalize hdd : o.data = dd at hd
  clear hd
  all_goals (first | refine callC_kw (enter_call ?_) | refine enter_call ?_)
  rename_i ns _ _ _ _ _ _ _ l vs _ hl _ _ _ hi _ hlen _
  have h120 : fa = 120 := by
    have e := mg_of (mg := mg) (n := Str.ofString "law") (v := .ref 120) KX T.g (by rfl)
    have hmg' : mg (Str.ofString "law") = some (.ref fa) := hmg
    rw [e] at hmg'
    cases hmg'; rfl
  subst h120
  have GG : Gd (KK w) s₁.heap := ⟨KX, ⟨mg, T.g⟩, ⟨mb, T.b, T.builtins⟩, T.nolimit⟩
  have h75 : s₁.heap.get? 75 = some (tabObj #[]) := hT8 75 (by simp)
  have C75 : CodeHd s₁.heap 79 75 := codeHd_of_K KX (by kernel_rfl)
  obtain ⟨bm, ob, M⟩ := bmod_of_top T
  have ap := M.apart (C75.tab h75)
  have H0 : Led (KK w) s₁.heap s₁.heap [objD 75 (tabObj #[])] [] := Led.startO GG (by intro d hd; cases List.mem_singleton.mp hd; exact h75) (by simp [objD]) (by intro d hd a ha; cases List.mem_singleton.mp hd; cases List.mem_singleton.mp ha; exact ⟨by rfl, by decide, by decide, by decide⟩)
  have hv : vs.length = ns.length := hi.length
  refine la_call H0 ⟨mg, T.g, bm, ob, M.name, M.ne, fun e => ?_, ap.2, M.obj, M.cls, M.dict, M.data⟩ hl hi (by omega) (by decide) (by decide) rfl Mine.plain ?_
  · subst e
    obtain ⟨o2, es, ep, ho2, hd2, _⟩ := T.g
    have := M.obj
    rw [ho2] at this; cases this
    rw [M.data] at hd2; cases hd2
  · intro h' tk' ps H'
    exact good_true hg h75 (C75.tab h75).isCodeTable H' (fun _ => by kernel_rfl) (by kernel_rfl)
end
