import PyProof.Rows.All
import Wide.All
import OpenK.AllK
import Wide.FinOn
import Lean
import PySem.Challenge.RW_qu0003_03
set_option Elab.async false
set_option compiler.extract_closed false
set_option genSizeOf false
set_option genInjectivity false
set_option linter.unusedSimpArgs false
set_option linter.unusedVariables false
set_option linter.unusedSectionVars false

section
open PySem PySem.W PyProof.Rows
namespace Mine
set_option maxRecDepth 100000 in
set_option maxHeartbeats 8000000 in
open_top hd03 for PySem.Challenge.rw_qu0003_03
end Mine
end

section
open PySem PySem.W PySem.Calls PyProof.Rows
namespace Mine

structure Gd (K : Frag) (h : Heap) : Prop where
  frag : K.In h
  gl : ∃ mg, h.Ns mainGlobals mg
  bt : ∃ mb, h.Ns builtinsNs mb ∧ ∀ x : Str, x ≠ "__name__" → mb x = bootBuiltins x
  nl : h.NoLimit

theorem Gd.ext {K : Frag} {h h' : Heap} (G : Gd K h) (e : ∀ b o, h.get? b = some o → h'.get? b = some o) : Gd K h' :=
  ⟨G.frag.keeps e, let ⟨mg, a⟩ := G.gl; ⟨mg, a.keeps e⟩, let ⟨mb, a, b⟩ := G.bt; ⟨mb, a.keeps e, b⟩, G.nl.keeps e⟩

def Fre (K : Frag) (a : Addr) : Prop := K.lookup a = none ∧ a ≠ builtinsNs ∧ a ≠ cStatics ∧ a ≠ mainGlobals

theorem Gd.but {K : Frag} {h h' : Heap} (G : Gd K h) {X : List Addr} (hX : ∀ a ∈ X, Fre K a) (e : ∀ b o, b ∉ X → h.get? b = some o → h'.get? b = some o) : Gd K h' := by
  refine ⟨fun a o ha => e a o (fun hm => ?_) (G.frag a o ha), ?_, ?_, ?_⟩
  · rw [(hX a hm).1] at ha; cases ha
  · obtain ⟨mg, n⟩ := G.gl
    exact ⟨mg, n.at (fun o ho => e _ o (fun hm => (hX _ hm).2.2.2 rfl) ho)⟩
  · obtain ⟨mb, n, b⟩ := G.bt
    exact ⟨mb, n.at (fun o ho => e _ o (fun hm => (hX _ hm).2.1 rfl) ho), b⟩
  · obtain ⟨mc, n, b⟩ := G.nl
    exact ⟨mc, n.at (fun o ho => e _ o (fun hm => (hX _ hm).2.2.1 rfl) ho), b⟩

theorem Gd.fre {K : Frag} {h : Heap} (G : Gd K h) {a : Addr} (ha : h.get? a = none) : Fre K a := by
  refine ⟨?_, ?_, ?_, ?_⟩
  · cases q : K.lookup a with
    | none => rfl
    | some o => have := G.frag a o q; rw [ha] at this; cases this
  · rintro rfl
    obtain ⟨mb, ⟨o, es, ep, ho, _⟩, _⟩ := G.bt
    rw [ha] at ho; cases ho
  · rintro rfl
    obtain ⟨mc, ⟨o, es, ep, ho, _⟩, _⟩ := G.nl
    rw [ha] at ho; cases ho
  · rintro rfl
    obtain ⟨mg, o, es, ep, ho, _⟩ := G.gl
    rw [ha] at ho; cases ho

structure HD where
  fp : List Addr
  P : Heap → Prop
  st : ∀ h h', (∀ a ∈ fp, ∀ o, h.get? a = some o → h'.get? a = some o) → P h → P h'
  al : ∀ h, P h → ∀ a ∈ fp, ∃ o, h.get? a = some o

def SV (v : Value) (x : Str) : Prop := ∃ t, v = .str x t
def IV (v : Value) (x : Int) : Prop := ∃ t, v = .int x t

def nsD (a : Addr) (l : List (Str × Value)) : HD where
  fp := [a]
  P h := h.Ns a (fun x => l.lookup x)
  st h h' e p := p.at (e a (.head _))
  al h p b hb := by cases hb with | head => (obtain ⟨o, _, _, ho, _⟩ := p; exact ⟨o, ho⟩) | tail _ q => cases q
def listD (a : Addr) (vs : List Value) : HD where
  fp := [a]
  P h := h.IsList a vs.toArray
  st h h' e p := p.at (e a (.head _))
  al h p b hb := by cases hb with | head => (obtain ⟨o, ho, _⟩ := p; exact ⟨o, ho⟩) | tail _ q => cases q
def objD (a : Addr) (o : Obj) : HD where
  fp := [a]
  P h := h.get? a = some o
  st h h' e p := e a (.head _) o p
  al h p b hb := by cases hb with | head => exact ⟨o, p⟩ | tail _ q => cases q
def cellD (a : Addr) (v : Option Value) : HD where
  fp := [a]
  P h := ∃ o, h.get? a = some o ∧ o.data = .cell v
  st h h' e p := let ⟨o, ho, hd⟩ := p; ⟨o, e a (.head _) o ho, hd⟩
  al h p b hb := by cases hb with | head => (obtain ⟨o, ho, _⟩ := p; exact ⟨o, ho⟩) | tail _ q => cases q
def strsD (a : Addr) (xs : List Str) : HD where
  fp := [a]
  P h := ∃ vs : List Value, h.PlainList a vs.toArray ∧ Paired SV vs xs
  st h h' e p := by obtain ⟨vs, l, q⟩ := p; exact ⟨vs, l.at (e a (.head _)), q⟩
  al h p b hb := by cases hb with | head => (obtain ⟨vs, ⟨n, ho⟩, _⟩ := p; exact ⟨_, ho⟩) | tail _ q => cases q
def intsD (a : Addr) (xs : List Int) : HD where
  fp := [a]
  P h := ∃ vs : List Value, h.IsList a vs.toArray ∧ Paired IV vs xs
  st h h' e p := by obtain ⟨vs, l, q⟩ := p; exact ⟨vs, l.at (e a (.head _)), q⟩
  al h p b hb := by cases hb with | head => (obtain ⟨vs, ⟨o, ho, _⟩, _⟩ := p; exact ⟨o, ho⟩) | tail _ q => cases q

structure Led (K : Frag) (g h : Heap) (O N : List HD) : Prop where
  gd : Gd K h
  all : ∀ d ∈ O ++ N, d.P h
  nd : ((O ++ N).flatMap HD.fp).Nodup
  nw : ∀ d ∈ N, ∀ a ∈ d.fp, g.get? a = none
  fr : ∀ d ∈ O ++ N, ∀ a ∈ d.fp, Fre K a
  keep : ∀ b o, g.get? b = some o → b ∉ O.flatMap HD.fp → h.get? b = some o

section
variable {K : Frag} {g h h' : Heap} {O N : List HD} {d d' : HD}

theorem Led.start (G : Gd K g) : Led K g g [] [] :=
  ⟨G, fun _ h => (nomatch h), List.nodup_nil, fun _ h => (nomatch h), fun _ h => (nomatch h), fun _ _ e _ => e⟩

theorem Led.startO (G : Gd K g) (hO : ∀ d ∈ O, d.P g) (nd : (O.flatMap HD.fp).Nodup) (fr : ∀ d ∈ O, ∀ a ∈ d.fp, Fre K a) : Led K g g O [] :=
  ⟨G, fun d hd => hO d (by simpa using hd), by simpa using nd, fun _ h => (nomatch h), fun d hd => fr d (by simpa using hd), fun _ _ e _ => e⟩

theorem Led.ext (H : Led K g h O N) (e : ∀ b o, h.get? b = some o → h'.get? b = some o) : Led K g h' O N :=
  ⟨H.gd.ext e, fun d hd => d.st _ _ (fun a _ o ho => e a o ho) (H.all d hd), H.nd, H.nw, H.fr, fun b o hb hn => e _ _ (H.keep b o hb hn)⟩

theorem Led.lo (H : Led K g h O N) (hd : d ∈ O ++ N) {a : Addr} (ha : a ∈ d.fp) : ∃ o, h.get? a = some o := d.al h (H.all d hd) a ha

theorem Led.fresh (H : Led K g h O N) {a : Addr} (ha : h.get? a = none) : g.get? a = none := by
  cases q : g.get? a with
  | none => rfl
  | some o =>
    by_cases hm : a ∈ O.flatMap HD.fp
    · obtain ⟨d, hd, hx⟩ := List.mem_flatMap.mp hm
      obtain ⟨o', ho'⟩ := H.lo (List.mem_append_left _ hd) hx
      rw [ha] at ho'; cases ho'
    · have := H.keep a o q hm; rw [ha] at this; cases this

theorem Led.new (H : Led K g h O N) (e : ∀ b o, h.get? b = some o → h'.get? b = some o) (hp : d.P h') (hf : ∀ a ∈ d.fp, h.get? a = none) (hn : d.fp.Nodup) :
    Led K g h' O (N ++ [d]) := by
  refine ⟨H.gd.ext e, fun x hx => ?_, ?_, fun x hx a ha => ?_, fun x hx a ha => ?_, fun b o hb hn => e _ _ (H.keep b o hb hn)⟩
  · rw [← List.append_assoc] at hx
    rcases List.mem_append.mp hx with q | q
    · exact x.st _ _ (fun a _ o ho => e a o ho) (H.all x q)
    · cases List.mem_singleton.mp q; exact hp
  · rw [← List.append_assoc, List.flatMap_append]
    refine List.nodup_append.mpr ⟨H.nd, by simpa using hn, fun a ha b hb hab => ?_⟩
    obtain ⟨x, hx, hax⟩ := List.mem_flatMap.mp ha
    obtain ⟨o, ho⟩ := H.lo hx hax
    have hb' : b ∈ d.fp := by simpa using hb
    rw [hab, hf b hb'] at ho; cases ho
  · rcases List.mem_append.mp hx with q | q
    · exact H.nw x q a ha
    · cases List.mem_singleton.mp q; exact H.fresh (hf a ha)
  · rw [← List.append_assoc] at hx
    rcases List.mem_append.mp hx with q | q
    · exact H.fr x q a ha
    · cases List.mem_singleton.mp q; exact H.gd.fre (hf a ha)

theorem mem_set {α : Type} {l : List α} {j : Nat} {x y : α} (h : x ∈ l.set j y) : x = y ∨ ∃ i, i ≠ j ∧ l[i]? = some x := by
  obtain ⟨i, hi, rfl⟩ := List.mem_iff_getElem.mp h
  rw [List.getElem_set]
  split
  · exact .inl rfl
  · rename_i q
    exact .inr ⟨i, fun e => q e.symm, by rw [List.getElem?_eq_getElem (by simpa using hi)]⟩

theorem fps_set {l : List HD} {j : Nat} (hj : l[j]? = some d) (hfp : d'.fp = d.fp) : (l.set j d').flatMap HD.fp = l.flatMap HD.fp := by
  induction l generalizing j with
  | nil => rfl
  | cons x l ih =>
    cases j with
    | zero => cases hj; simp [hfp]
    | succ j => simp only [List.set_cons_succ, List.flatMap_cons, ih (j := j) (by simpa using hj)]

theorem nodup_apart {l : List HD} (nd : (l.flatMap HD.fp).Nodup) {i j : Nat} {x y : HD} (hi : l[i]? = some x) (hj : l[j]? = some y) (hij : i ≠ j) {a : Addr} (hx : a ∈ x.fp) (hy : a ∈ y.fp) : False := by
  induction l generalizing i j with
  | nil => cases hi
  | cons z l ih =>
    rw [List.flatMap_cons, List.nodup_append] at nd
    obtain ⟨_, nd2, nd3⟩ := nd
    have inl : ∀ {k : Nat} {u : HD}, l[k]? = some u → a ∈ u.fp → a ∈ l.flatMap HD.fp := fun hk hu => List.mem_flatMap.mpr ⟨_, List.mem_of_getElem? hk, hu⟩
    cases i with
    | zero =>
      cases j with
      | zero => exact hij rfl
      | succ j => cases hi; exact nd3 a hx a (inl (by simpa using hj) hy) rfl
    | succ i =>
      cases j with
      | zero => cases hj; exact nd3 a hy a (inl (by simpa using hi) hx) rfl
      | succ j => exact ih nd2 (by simpa using hi) (by simpa using hj) (fun e => hij (by rw [e]))

theorem Led.modAt (H : Led K g h O N) {O' N' : List HD} {j : Nat} (hs : O' ++ N' = (O ++ N).set j d') (hj : (O ++ N)[j]? = some d) (hfp : d'.fp = d.fp)
    (e : ∀ b o, b ∉ d.fp → h.get? b = some o → h'.get? b = some o) (hp : d'.P h') (hO : O'.flatMap HD.fp = O.flatMap HD.fp) (hN : ∀ x ∈ N', ∀ a ∈ x.fp, ∃ y ∈ N, a ∈ y.fp)
    (hkeep : j < O.length ∨ d ∈ N) : Led K g h' O' N' := by
  have hdm : d ∈ O ++ N := List.mem_of_getElem? hj
  refine ⟨H.gd.but (H.fr d hdm) e, fun x hx => ?_, ?_, fun x hx a ha => ?_, fun x hx a ha => ?_, fun b o hb hn => ?_⟩
  · rw [hs] at hx
    rcases mem_set hx with rfl | ⟨i, hij, hi⟩
    · exact hp
    · exact x.st _ _ (fun a ha o ho => e a o (fun hm => nodup_apart H.nd hi hj hij ha hm) ho) (H.all x (List.mem_of_getElem? hi))
  · rw [hs, fps_set hj hfp]; exact H.nd
  · obtain ⟨y, hy, hay⟩ := hN x hx a ha
    exact H.nw y hy a hay
  · rw [hs] at hx
    rcases mem_set hx with rfl | ⟨i, _, hi⟩
    · exact H.fr d hdm a (hfp ▸ ha)
    · exact H.fr x (List.mem_of_getElem? hi) a ha
  · rw [hO] at hn
    refine e b o (fun hm => ?_) (H.keep b o hb hn)
    rcases hkeep with q | q
    · have : O[j]? = some d := by rw [List.getElem?_append_left q] at hj; exact hj
      exact hn (List.mem_flatMap.mpr ⟨d, List.mem_of_getElem? this, hm⟩)
    · rw [H.nw d q b hm] at hb; cases hb

theorem Led.mod (H : Led K g h O N) {j : Nat} (hj : N[j]? = some d) (hfp : d'.fp = d.fp)
    (e : ∀ b o, b ∉ d.fp → h.get? b = some o → h'.get? b = some o) (hp : d'.P h') : Led K g h' O (N.set j d') := by
  refine H.modAt (j := O.length + j) (d := d) ?_ ?_ hfp e hp rfl (fun x hx a ha => ?_) (.inr (List.mem_of_getElem? hj))
  · rw [List.set_append_right _ _ (by (first | lia | omega)), Nat.add_sub_cancel_left]
  · rw [List.getElem?_append_right (by (first | lia | omega)), Nat.add_sub_cancel_left]; exact hj
  · rcases mem_set hx with rfl | ⟨i, _, hi⟩
    · exact ⟨d, List.mem_of_getElem? hj, hfp ▸ ha⟩
    · exact ⟨x, List.mem_of_getElem? hi, ha⟩

theorem Led.modO (H : Led K g h O N) {j : Nat} (hj : O[j]? = some d) (hfp : d'.fp = d.fp)
    (e : ∀ b o, b ∉ d.fp → h.get? b = some o → h'.get? b = some o) (hp : d'.P h') : Led K g h' (O.set j d') N := by
  have hlt : j < O.length := (List.getElem?_eq_some_iff.mp hj).1
  refine H.modAt (j := j) (d := d) ?_ ?_ hfp e hp (fps_set hj hfp) (fun x hx a ha => ⟨x, hx, ha⟩) (.inl hlt)
  · rw [List.set_append_left _ _ hlt]
  · rw [List.getElem?_append_left hlt]; exact hj

theorem Led.at (H : Led K g h O N) {j : Nat} (hj : N[j]? = some d) : d.P h := H.all d (List.mem_append_right _ (List.mem_of_getElem? hj))
theorem Led.atO (H : Led K g h O N) {j : Nat} (hj : O[j]? = some d) : d.P h := H.all d (List.mem_append_left _ (List.mem_of_getElem? hj))

theorem fps_sub {l l' : List HD} (hs : l'.Sublist l) : (l'.flatMap HD.fp).Sublist (l.flatMap HD.fp) := by
  induction hs with
  | slnil => exact List.Sublist.refl _
  | cons a _ ih => rw [List.flatMap_cons]; exact ih.trans (List.sublist_append_right _ _)
  | cons_cons a _ ih => rw [List.flatMap_cons, List.flatMap_cons]; exact List.Sublist.append (List.Sublist.refl _) ih

theorem Led.sub (H : Led K g h O N) {N' : List HD} (hs : N'.Sublist N) : Led K g h O N' :=
  have hs' : (O ++ N').Sublist (O ++ N) := List.Sublist.append (List.Sublist.refl _) hs
  have hf : ((O ++ N').flatMap HD.fp).Sublist ((O ++ N).flatMap HD.fp) := fps_sub hs'
  ⟨H.gd, fun d hd => H.all d (hs'.subset hd), H.nd.sublist hf, fun d hd => H.nw d (hs.subset hd), fun d hd => H.fr d (hs'.subset hd), H.keep⟩
end

theorem sameBut_e {h h' : Heap} {a : Addr} (hs : Heap.SameBut a h h') : ∀ b o, b ∉ [a] → h.get? b = some o → h'.get? b = some o :=
  fun b o hb e => hs.extBut b o (by simpa using hb) e
theorem push_e {h : Heap} (o : Obj) : ∀ b o', h.get? b = some o' → (h.push o).get? b = some o' := fun _ _ e => Heap.get?_push_of_some _ e
theorem none_size (h : Heap) : h.get? h.objs.size = none := by
  cases q : h.get? h.objs.size with
  | none => rfl
  | some o => exact absurd (Heap.lt_size q) (Nat.lt_irrefl _)
end Mine
end

section
open PySem PySem.W PySem.Calls PyProof.Rows
namespace Mine
section
variable {prog : Program} {w : World} {A : Around} {E : Value → Shared → Prop} {K : Frag} {g h : Heap} {O N : List HD} {gs : Array GenState} {dr : Drawn} {tk : Nat} {os : OsState} {env : Env} {L : Addr} {lv : List (Str × Value)}

theorem r_loc {x : Str} {pos : Pos} {v : Value} {Q : Value → Shared → Prop} (hl : env.kindOf x = some .local) (hk : env.scope.kind = .function) (H : Led K g h O N) (hj : N[0]? = some (nsD L lv)) (hL : env.locals = L) (hv : lv.lookup x = some v)
    (hd : (x == ("__debug__" : Str)) = false) (q : Q v ⟨h, gs, dr, tk, os⟩) : wpAny (model prog w) A (eval (.Name x pos) env) Q E ⟨h, gs, dr, tk, os⟩ := by
  subst hL
  exact wpAny_Name (wpAny_loadName_local hk hl (H.at hj) hv q) hd

theorem r_sto {x : Str} {v : Value} {Q : Unit → Shared → Prop} (H : Led K g h O N) (hj : N[0]? = some (nsD L lv)) (hL : env.locals = L) (hk : env.scope.kind = .function) (hl : env.kindOf x = some .local)
    (q : ∀ h' tk', Led K g h' O (N.set 0 (nsD L ((x, v) :: lv))) → Q () ⟨h', gs, dr, tk', os⟩) : wpAny (model prog w) A (storeName env x v) Q E ⟨h, gs, dr, tk, os⟩ := by
  subst hL
  refine wpAny_storeName_local hl (H.at hj) (fun h' hn hs => q h' _ (H.mod hj rfl (sameBut_e hs) ?_)) (by rw [hk]; rfl)
  have : (fun y => ((x, v) :: lv).lookup y) = fun y => if y = x then some v else lv.lookup y := by
    funext y
    rw [List.lookup_cons]
    by_cases e : y = x
    · subst e; simp
    · rw [if_neg e, beq_eq_false_iff_ne.mpr e]
  show h'.Ns env.locals _
  rw [this]; exact hn

theorem r_glob {x : Str} {pos : Pos} {v : Value} {Q : Value → Shared → Prop} (hl : env.kindOf x = some .globalImplicit) (hk : env.scope.kind = .function) (H : Led K g h O N) (hg : env.globals = mainGlobals) (e : nsIn K mainGlobals x = some (some v))
    (hd : (x == ("__debug__" : Str)) = false) (q : Q v ⟨h, gs, dr, tk, os⟩) :
    wpAny (model prog w) A (eval (.Name x pos) env) Q E ⟨h, gs, dr, tk, os⟩ := by
  obtain ⟨mg, ng⟩ := H.gd.gl
  exact Name_function_global hk hl (loadGlobal_global (hg ▸ ng) (mg_of H.gd.frag ng e) q) hd

theorem r_blt {x : Str} {pos : Pos} {v : Value} {Q : Value → Shared → Prop} (hl : env.kindOf x = some .globalImplicit) (hk : env.scope.kind = .function) (H : Led K g h O N) (hg : env.globals = mainGlobals) (e : nsIn K mainGlobals x = some none)
    (hb : env.builtins = builtinsNs) (hbb : bootBuiltins x = some v) (hn : x ≠ "__name__") (hd : (x == ("__debug__" : Str)) = false) (q : Q v ⟨h, gs, dr, tk, os⟩) :
    wpAny (model prog w) A (eval (.Name x pos) env) Q E ⟨h, gs, dr, tk, os⟩ := by
  obtain ⟨mg, ng⟩ := H.gd.gl
  obtain ⟨mb, nb, hbt⟩ := H.gd.bt
  exact Name_function_global hk hl (loadGlobal_builtin (hg ▸ ng) (mg_none_of H.gd.frag ng e) (hb ▸ nb) ((hbt x hn).trans hbb) q) hd
end
end Mine
namespace Mine
section
variable {prog : Program} {w : World} {A : Around} {E : Value → Shared → Prop} {K : Frag} {g h : Heap} {O N : List HD} {gs : Array GenState} {dr : Drawn} {tk : Nat} {os : OsState} {env : Env} {L : Addr} {lv : List (Str × Value)}

theorem Led.drop {h' : Heap} {d : HD} (H : Led K g h O N) {j : Nat} (hj : N[j]? = some d) (e : ∀ b o, b ∉ d.fp → h.get? b = some o → h'.get? b = some o) : Led K g h' O (N.eraseIdx j) := by
  have hlt : j < N.length := (List.getElem?_eq_some_iff.mp hj).1
  have hsub : (N.eraseIdx j).Sublist N := List.eraseIdx_sublist N j
  have H' := H.sub hsub
  have hdm : d ∈ O ++ N := List.mem_append_right _ (List.mem_of_getElem? hj)
  have apart : ∀ x ∈ O ++ N.eraseIdx j, ∀ a ∈ x.fp, a ∉ d.fp := by
    intro x hx a ha hd
    have hjj : (O ++ N)[O.length + j]? = some d := by rw [List.getElem?_append_right (by (first | lia | omega)), Nat.add_sub_cancel_left]; exact hj
    rcases List.mem_append.mp hx with q | q
    · obtain ⟨i, hi, rfl⟩ := List.mem_iff_getElem.mp q
      exact nodup_apart H.nd (i := i) (j := O.length + j) (by rw [List.getElem?_append_left hi, List.getElem?_eq_getElem hi]) hjj (by (first | lia | omega)) ha hd
    · obtain ⟨i, hi, rfl⟩ := List.mem_iff_getElem.mp q
      rw [List.getElem_eraseIdx] at ha
      have hlen : (N.eraseIdx j).length = N.length - 1 := List.length_eraseIdx_of_lt hlt
      split at ha
      · rename_i hij
        exact nodup_apart H.nd (i := O.length + i) (j := O.length + j) (by rw [List.getElem?_append_right (by (first | lia | omega)), Nat.add_sub_cancel_left, List.getElem?_eq_getElem]) hjj (by (first | lia | omega)) ha hd
      · rename_i hij
        exact nodup_apart H.nd (i := O.length + (i + 1)) (j := O.length + j) (by rw [List.getElem?_append_right (by (first | lia | omega)), Nat.add_sub_cancel_left, List.getElem?_eq_getElem]) hjj (by (first | lia | omega)) ha hd
  refine ⟨H.gd.but (H.fr d hdm) e, fun x hx => x.st _ _ (fun a ha o ho => e a o (apart x hx a ha) ho) (H'.all x hx), H'.nd, H'.nw, H'.fr, fun b o hb hn => e b o (fun hm => ?_) (H.keep b o hb hn)⟩
  rw [H.nw d (List.mem_of_getElem? hj) b hm] at hb; cases hb

theorem Led.base (H : Led K g h [] N) {a : Addr} {o : Obj} (e : g.get? a = some o) : h.get? a = some o := H.keep a o e (by simp)
theorem Led.blist (H : Led K g h [] N) {l : Addr} {vs : Array Value} (hl : g.IsList l vs) : h.IsList l vs := hl.at fun o e => H.base e

def plainD (a : Addr) (vs : List Value) : HD where
  fp := [a]
  P h := h.PlainList a vs.toArray
  st h h' e p := p.at (e a (.head _))
  al h p b hb := by cases hb with | head => (obtain ⟨o, ho⟩ := p; exact ⟨_, ho⟩) | tail _ q => cases q

theorem noCells {l : List (Str × NameKind)} (h : (l.all fun x => x.2 != .cell) = true) : ∀ x ∈ l, x.2 ≠ .cell := fun x hx => by simpa using List.all_eq_true.mp h x hx
theorem r_enter {R : Result → Shared → Prop} {f : Addr} {oc : Value} {od : Option Addr} {sl : Array (Option Value)} {fd : FuncData} {body : List Stmt} {args : List Value} {binds : List (Str × Value)}
    (H : Led K h h O []) (hroom : A.depth < recursionLimit) (ho : K.lookup f = some ⟨oc, od, .func fd, sl⟩) (hcd : codeIn K fd.code fd.qualname = true) (hbody : fd.body = .stmts body)
    (hbind : bindArgs fd ⟨args, []⟩ = pure binds) (hcell : (fd.scope.names.all fun x => x.2 != .cell) = true) (hloc : (binds.all fun x => decide (fd.scope.names.lookup x.1 = some .local)) = true)
    (hlv : binds.reverse = lv) (hco : fd.scope.isCoroutine = false) (hgen : fd.scope.isGenerator = false) (hk : fd.scope.kind = .function)
    (q : ∀ (E' : Value → Shared → Prop) L h₁ tk₁, Led K h h₁ O [nsD L lv] → wpAny (model prog w) (A.deeper (callEnv fd L f)) (execs body (callEnv fd L f)) (fun fl s' => R (.ok (.ret (match fl with | .ret v => v | _ => .none))) s') E' ⟨h₁, gs, dr, tk₁, os⟩) :
    codeAny (model prog w) A (.call (.ref f) ⟨args, []⟩) R ⟨h, gs, dr, tk, os⟩ := by
  refine codeAny_call_def hroom (H.gd.frag f _ ho) rfl H.gd.nl (codeRec_of H.gd.frag hcd) hbody (BindsTo.of_eq hbind) (noCells hcell) (locs hloc) (fun h₁ hns hk₁ => ?_) hco hgen hk
  subst hlv
  exact q _ _ h₁ _ (H.new hk₁ hns (by intro a ha; cases List.mem_singleton.mp ha; exact none_size h) (by simp [nsD]))

inductive Nx (I : Nat → Heap → Prop) (n : Nat) (gs : Array GenState) (dr : Drawn) (os : OsState) : Shared → Prop
  | mk {m : Nat} {h : Heap} {tk : Nat} : m < n → I m h → Nx I n gs dr os ⟨h, gs, dr, tk, os⟩

theorem r_while {test : PySem.Expr} {body orelse : List Stmt} {pos : Pos} {Q : Flow → Shared → Prop} (I : Nat → Heap → Prop) (n : Nat) (h0 : I n h)
    (turn : ∀ (E' : Value → Shared → Prop) n h tk, I n h → wpAny (model prog w) A (isTrue test env (eval test env)) (fun b s₂ =>
      if b then wpAny (model prog w) A (execs body env) (fun f s₃ => match f with
            | .next | .cont => Nx I n gs dr os s₃
            | .brk => Q .next s₃
            | .ret v => Q (.ret v) s₃) E' s₂
        else wpAny (model prog w) A (execs orelse env) Q E' s₂) E' ⟨h, gs, dr, tk, os⟩) :
    wpAny (model prog w) A (exec (.While test body orelse pos) env) Q E ⟨h, gs, dr, tk, os⟩ := by
  refine wpAny_While (codeAny_whileLoop (fun n s => ∃ h tk, I n h ∧ s = ⟨h, gs, dr, tk, os⟩) ?_ n ⟨h, tk, h0, rfl⟩)
  rintro n s ⟨h, tk, hI, rfl⟩
  refine wpAny_mono (turn _ n h tk hI) (fun b s₂ hb => ?_) fun _ _ e => e
  cases b with
  | false => simpa using hb
  | true =>
    simp only [if_true] at hb ⊢
    refine wpAny_mono hb (fun f s₃ hf => ?_) fun _ _ e => e
    cases f with
    | next => obtain ⟨hm, hI⟩ := hf; exact ⟨_, hm, _, _, hI, rfl⟩
    | cont => obtain ⟨hm, hI⟩ := hf; exact ⟨_, hm, _, _, hI, rfl⟩
    | brk => exact hf
    | ret v => exact hf

theorem r_for {target iter : PySem.Expr} {body orelse : List Stmt} {pos : Pos} {Q : Flow → Shared → Prop}
    (hs : ∀ x, foldedSetIterable iter env x = pure x) 
    (hq : wpAny (model prog w) A (eval iter env) (fun x s₁ => wpAny (model prog w) A (pyIter x) (fun it s₂ => ∃ (I : Nat → Heap → Prop) (n : Nat) (h₂ : Heap) (tk₂ : Nat), s₂ = ⟨h₂, gs, dr, tk₂, os⟩ ∧ I n h₂ ∧ (∀ v, letOwnedTupleGo target it v = pure ()) ∧
      (∀ (E' : Value → Shared → Prop) n h tk, I n h → wpAny (model prog w) A (pyNext it) (fun r s₁ => match r with
        | none => wpAny (model prog w) A (execs orelse env) Q E' s₁
        | some v => wpAny (model prog w) A (assign target env v) (fun _ s₂ => wpAny (model prog w) A (execs body env) (fun f s₃ => match f with
            | .next | .cont => Nx I n gs dr os s₃
            | .brk => Q .next s₃
            | .ret v => Q (.ret v) s₃) E' s₂) E' s₁) E' ⟨h, gs, dr, tk, os⟩)) E s₁) E ⟨h, gs, dr, tk, os⟩) :
    wpAny (model prog w) A (exec (.For target iter body orelse pos) env) Q E ⟨h, gs, dr, tk, os⟩ := by
  refine wpAny_For (wpAny_mono hq (fun x s₁ h₁ => wpAny_mono h₁ (fun it s₂ h₂ => ?_) fun _ _ e => e) fun _ _ e => e) hs
  obtain ⟨I, n, h₂, tk₂, rfl, h0, ht, turn⟩ := h₂
  refine codeAny_forLoop (fun n s => ∃ h tk, I n h ∧ s = ⟨h, gs, dr, tk, os⟩) ?_ n ⟨h₂, tk₂, h0, rfl⟩ ht
  rintro n s ⟨h, tk, hI, rfl⟩
  refine wpAny_mono (turn _ n h tk hI) (fun r s₁ hr => ?_) fun _ _ e => e
  cases r with
  | none => exact hr
  | some v =>
    refine wpAny_mono hr (fun _ s₂ hb => wpAny_mono hb (fun f s₃ hf => ?_) fun _ _ e => e) fun _ _ e => e
    cases f with
    | next => obtain ⟨hm, hI⟩ := hf; exact ⟨_, hm, _, _, hI, rfl⟩
    | cont => obtain ⟨hm, hI⟩ := hf; exact ⟨_, hm, _, _, hI, rfl⟩
    | brk => exact hf
    | ret v => exact hf

theorem r_newList {vs : List Value} {Q : Value → Shared → Prop} (H : Led K g h O N) (hsz : vs.length ≤ sizeLine)
    (q : ∀ a h' tk', Led K g h' O (N ++ [plainD a vs]) → Q (.ref a) ⟨h', gs, dr, tk', os⟩) : wpAny (model prog w) A (newList vs) Q E ⟨h, gs, dr, tk, os⟩ := by
  refine wpAny_newList (q _ _ _ (H.new (push_e _) ⟨_, Heap.get?_push_size _ rfl⟩ (by intro a ha; cases List.mem_singleton.mp ha; exact none_size h) (by simp [plainD]))) ?_
  exact hsz
end
end Mine
namespace Mine
theorem rep_arr (vs : List Value) (n : Nat) : List.foldl (fun x1 x2 => x1 ++ x2) #[] (List.replicate n vs.toArray) = ((List.replicate n vs).flatten).toArray := by
  have key : ∀ (n : Nat) (acc : Array Value), List.foldl (fun x1 x2 => x1 ++ x2) acc (List.replicate n vs.toArray) = acc ++ ((List.replicate n vs).flatten).toArray := by
    intro n
    induction n with
    | zero => intro acc; simp
    | succ n ih => intro acc; rw [List.replicate_succ, List.foldl_cons, ih, List.replicate_succ, List.flatten_cons]; simp
  simpa using key n #[]

section
variable {prog : Program} {w : World} {A : Around} {E : Value → Shared → Prop} {K : Frag} {g h : Heap} {O N : List HD} {gs : Array GenState} {dr : Drawn} {tk : Nat} {os : OsState} {env : Env} {L : Addr} {lv : List (Str × Value)}

theorem r_mul {l : Addr} {vs : List Value} {x : Int} {u : Tok} {Q : Value → Shared → Prop} (H : Led K g h O N) (hl : h.PlainList l vs.toArray) (h0 : 0 ≤ x) (hhi : x < 2 ^ 63) (hsz : vs.length * x.toNat ≤ 2 ^ 24)
    (q : ∀ a h' tk', Led K g h' O (N ++ [plainD a (List.replicate x.toNat vs).flatten]) → Q (.ref a) ⟨h', gs, dr, tk', os⟩) :
    wpAny (model prog w) A (binaryOp .Mult (.ref l) (.int x u)) Q E ⟨h, gs, dr, tk, os⟩ := by
  obtain ⟨k, hl⟩ := hl
  have hsz' : vs.toArray.size * x.toNat ≤ 2 ^ 24 := by simpa using hsz
  have hT : (Shared.mk h gs dr tk os).TypeIs (.ref l) "list" := ⟨_, hl, rfl⟩
  refine wpAny_binaryOp_repeat_ref (T := "list") (U := "int") (by decide) hT (fun s' => typeIs_int s' x u) noFill_list_mul F.fills_int_mul F.slot_int_rmul repeat_list F.slot_int_index.lookup
    (call_meets F.slot_int_rmul (typeIs_int _ x u) F.entry_int_rmul (F.args_int_rmul_2 _ _) (int___rmul___int_list x u l vs.toArray k)
      ⟨hl, rfl, hT, call_meets F.slot_list_mul hT F.entry_list_mul (F.args_list_mul_2 _ _)
        (AutoListH.list___mul___list_int_3 l vs.toArray k x u (by simp [Builtin.List.listFitsIndex]; (first | lia | omega)) (by (first | lia | omega)) (by simp only [Builtin.List.listTooLong, sizeLine] at *; simp; simp at hsz'; (first | lia | omega)))
        ⟨hl, ?_⟩⟩)
  refine q _ _ _ (H.new (push_e _) ⟨0, ?_⟩ (by intro a ha; cases List.mem_singleton.mp ha; exact none_size h) (by simp [plainD]))
  have e : List.foldl (fun x1 x2 => x1 ++ x2) #[] (List.replicate (if vs.toArray.isEmpty = true then 0 else x.toNat) vs.toArray) = ((List.replicate x.toNat vs).flatten).toArray := by
    by_cases hv : vs = []
    · subst hv; simp
    · have : vs.toArray.isEmpty = false := by simpa using hv
      rw [this]; exact rep_arr vs x.toNat
  rw [← e]; exact Heap.get?_push_size _ rfl

theorem r_len {l : Addr} {vs : List Value} {Q : Value → Shared → Prop} (hl : h.IsList l vs.toArray) (hfit : vs.length < 2 ^ 62)
    (q : ∀ t tk', Q (.int vs.length t) ⟨h, gs, dr, tk', os⟩) : wpAny (model prog w) A (call (.builtin "len") [.ref l]) Q E ⟨h, gs, dr, tk, os⟩ :=
  len_list (s := ⟨h, gs, dr, tk, os⟩) hl (by simp; (first | lia | omega)) (by simpa using q _ _)

def rangeD (r : Addr) (a b c : Int) : HD where
  fp := [r]
  P h := ∃ t u v, IsRange h r a b c t u v
  st h h' e p := by obtain ⟨t, u, v, p⟩ := p; exact ⟨t, u, v, e r (.head _) _ p⟩
  al h p b hb := by cases hb with | head => (obtain ⟨_, _, _, p⟩ := p; exact ⟨_, p⟩) | tail _ q => cases q
def riD (r : Addr) (x left step : Int) : HD where
  fp := [r]
  P h := IsRangeIter h r x left step
  st h h' e p := e r (.head _) _ p
  al h p b hb := by cases hb with | head => exact ⟨_, p⟩ | tail _ q => cases q

theorem r_range2 {a b : Int} {t u : Tok} {Q : Value → Shared → Prop} (H : Led K g h O N)
    (q : ∀ r h' tk', Led K g h' O (N ++ [rangeD r a b 1]) → Q (.ref r) ⟨h', gs, dr, tk', os⟩) : wpAny (model prog w) A (call (.type "range") [.int a t, .int b u]) Q E ⟨h, gs, dr, tk, os⟩ :=
  call_range_2 (q _ _ _ (H.new (push_e _) ⟨_, _, _, IsRange.new ..⟩ (by intro a ha; cases List.mem_singleton.mp ha; exact none_size h) (by simp [rangeD])))
theorem r_range1 {b : Int} {u : Tok} {Q : Value → Shared → Prop} (H : Led K g h O N)
    (q : ∀ r h' tk', Led K g h' O (N ++ [rangeD r 0 b 1]) → Q (.ref r) ⟨h', gs, dr, tk', os⟩) : wpAny (model prog w) A (call (.type "range") [.int b u]) Q E ⟨h, gs, dr, tk, os⟩ :=
  call_range_1 (q _ _ _ (H.new (push_e _) ⟨_, _, _, IsRange.new ..⟩ (by intro a ha; cases List.mem_singleton.mp ha; exact none_size h) (by simp [rangeD])))
theorem r_range3 {a b c : Int} {t u v : Tok} {Q : Value → Shared → Prop} (H : Led K g h O N) (hc : c ≠ 0) (hp : Builtin.divisionGoesByPylong (b - a) c = false)
    (q : ∀ r h' tk', Led K g h' O (N ++ [rangeD r a b c]) → Q (.ref r) ⟨h', gs, dr, tk', os⟩) : wpAny (model prog w) A (call (.type "range") [.int a t, .int b u, .int c v]) Q E ⟨h, gs, dr, tk, os⟩ :=
  call_range_3 hc (q _ _ _ (H.new (push_e _) ⟨_, _, _, IsRange.new ..⟩ (by intro a ha; cases List.mem_singleton.mp ha; exact none_size h) (by simp [rangeD]))) (.inl hp)
theorem r_iterR {r : Addr} {a b c : Int} {j : Nat} {Q : Value → Shared → Prop} (H : Led K g h O N) (hj : N[j]? = some (rangeD r a b c)) (hs : Builtin.Range.small a b c = true)
    (q : ∀ i h' tk', Led K g h' O (N ++ [riD i a (Builtin.Range.rangeSize a b c) c]) → Q (.ref i) ⟨h', gs, dr, tk', os⟩) : wpAny (model prog w) A (pyIter (.ref r)) Q E ⟨h, gs, dr, tk, os⟩ := by
  obtain ⟨t, u, v, p⟩ := H.at hj
  exact wpAny_pyIter_range p hs (q _ _ _ (H.new (push_e _) (Heap.get?_push_size _ rfl) (by intro a ha; cases List.mem_singleton.mp ha; exact none_size h) (by simp [riD])))
theorem r_nextR {i : Addr} {x left step : Int} {j : Nat} {Q : Option Value → Shared → Prop} (H : Led K g h O N) (hj : N[j]? = some (riD i x left step)) (hl : 0 < left)
    (q : ∀ t h' tk', Led K g h' O (N.set j (riD i (x + step) (left - 1) step)) → Q (some (.int x t)) ⟨h', gs, dr, tk', os⟩) : wpAny (model prog w) A (pyNext (.ref i)) Q E ⟨h, gs, dr, tk, os⟩ :=
  wpAny_pyNext_range_item (H.at hj) hl (fun h' hi hs => q _ h' _ (H.mod hj rfl (sameBut_e hs) hi))
theorem r_nextR_end {i : Addr} {x left step : Int} {j : Nat} {Q : Option Value → Shared → Prop} (H : Led K g h O N) (hh : A.handled = none) (hj : N[j]? = some (riD i x left step)) (hl : left ≤ 0)
    (q : ∀ h' tk', Led K g h' O (N.eraseIdx j) → Q none ⟨h', gs, dr, tk', os⟩) : wpAny (model prog w) A (pyNext (.ref i)) Q E ⟨h, gs, dr, tk, os⟩ := by
  refine wpAny_pyNext_range_end hh (H.at hj) hl (fun h' he => q h' _ ?_)
  exact H.drop hj fun b o hb e => he b o (by simpa [riD] using hb) e
end
end Mine
namespace Mine
theorem Paired.get {α β : Type} {F : α → β → Prop} : ∀ {l₁ : List α} {l₂ : List β}, Paired F l₁ l₂ → ∀ {i : Nat} {y : β}, l₂[i]? = some y → ∃ x, l₁[i]? = some x ∧ F x y
  | _, _, .nil, _, _, h => by simp at h
  | _, _, .cons h₁ t, i, y, h => by
    cases i with
    | zero => simp at h; subst h; exact ⟨_, by simp, h₁⟩
    | succ i => simp at h; obtain ⟨x, hx, hf⟩ := Paired.get t h; exact ⟨x, by simpa using hx, hf⟩
theorem Paired.set {α β : Type} {F : α → β → Prop} {a : α} {b : β} (hab : F a b) : ∀ {l₁ : List α} {l₂ : List β}, Paired F l₁ l₂ → ∀ (i : Nat), Paired F (l₁.set i a) (l₂.set i b)
  | _, _, .nil, _ => .nil
  | _, _, .cons h₁ t, i => by
    cases i with
    | zero => exact .cons hab t
    | succ i => exact .cons h₁ (Paired.set hab t i)
theorem Paired.app {α β : Type} {F : α → β → Prop} : ∀ {l₁ : List α} {l₂ : List β} {m₁ : List α} {m₂ : List β}, Paired F l₁ l₂ → Paired F m₁ m₂ → Paired F (l₁ ++ m₁) (l₂ ++ m₂)
  | _, _, _, _, .nil, h => h
  | _, _, _, _, .cons h₁ t, h => .cons h₁ (Paired.app t h)
theorem Paired.rep {α β : Type} {F : α → β → Prop} {a : α} {b : β} (hab : F a b) : ∀ n : Nat, Paired F (List.replicate n a) (List.replicate n b)
  | 0 => .nil
  | n + 1 => .cons hab (Paired.rep hab n)

section
variable {prog : Program} {w : World} {A : Around} {E : Value → Shared → Prop} {K : Frag} {g h : Heap} {O N : List HD} {gs : Array GenState} {dr : Drawn} {tk : Nat} {os : OsState} {env : Env} {L : Addr} {lv : List (Str × Value)}

theorem Led.conv {d d' : HD} (H : Led K g h O N) {j : Nat} (hj : N[j]? = some d) (hfp : d'.fp = d.fp) (hP : d.P h → d'.P h) : Led K g h O (N.set j d') := H.mod hj hfp (fun _ _ _ e => e) (hP (H.at hj))

theorem r_item {value slice : PySem.Expr} {l : Addr} {vs : List Value} {k : Int} {u : Tok} {v : Value} {Q : Value → Shared → Prop} (hl : h.IsList l vs.toArray) (h0 : 0 ≤ k) (hhi : k < 2 ^ 63) (hx : vs[k.toNat]? = some v) (q : Q v ⟨h, gs, dr, tk, os⟩)
    (hs : subscripted slice false (.ref l) (.int k u) = operate [.ref l, .int k u] (getItem (.ref l) (.int k u))) :
    wpAny (model prog w) A (subscriptTail value slice (.ref l) (.int k u)) Q E ⟨h, gs, dr, tk, os⟩ :=
  tail_any (s := ⟨h, gs, dr, tk, os⟩) hl.typeIs slot_list_getitem.lookup (wpAny_getItem_list hl h0 hhi (by simpa using hx) q) hs
theorem r_itemS {value slice : PySem.Expr} {l : Addr} {vs : List Value} {xs : List Str} {k : Int} {u : Tok} {x : Str} {Q : Value → Shared → Prop} (hl : h.IsList l vs.toArray) (hp : Paired SV vs xs) (h0 : 0 ≤ k) (hhi : k < 2 ^ 63) (hx : xs[k.toNat]? = some x)
    (q : ∀ t, Q (.str x t) ⟨h, gs, dr, tk, os⟩)
    (hs : subscripted slice false (.ref l) (.int k u) = operate [.ref l, .int k u] (getItem (.ref l) (.int k u))) :
    wpAny (model prog w) A (subscriptTail value slice (.ref l) (.int k u)) Q E ⟨h, gs, dr, tk, os⟩ := by
  obtain ⟨v, hv, t, rfl⟩ := Paired.get hp hx
  exact r_item hl h0 hhi hv (q t) hs
theorem r_itemI {value slice : PySem.Expr} {l : Addr} {xs : List Int} {j : Nat} {k : Int} {u : Tok} {x : Int} {Q : Value → Shared → Prop} (H : Led K g h O N) (hj : N[j]? = some (intsD l xs)) (h0 : 0 ≤ k) (hhi : k < 2 ^ 63) (hx : xs[k.toNat]? = some x)
    (q : ∀ t, Q (.int x t) ⟨h, gs, dr, tk, os⟩)
    (hs : subscripted slice false (.ref l) (.int k u) = operate [.ref l, .int k u] (getItem (.ref l) (.int k u))) :
    wpAny (model prog w) A (subscriptTail value slice (.ref l) (.int k u)) Q E ⟨h, gs, dr, tk, os⟩ := by
  obtain ⟨vs, hl, hp⟩ := H.at hj
  obtain ⟨v, hv, t, rfl⟩ := Paired.get hp hx
  exact r_item hl h0 hhi hv (q t) hs
theorem r_setI {l : Addr} {xs : List Int} {j : Nat} {k : Int} {t u : Tok} {x : Int} {Q : Unit → Shared → Prop} (H : Led K g h O N) (hj : N[j]? = some (intsD l xs)) (h0 : 0 ≤ k) (hhi : k < 2 ^ 63) (hx : k < xs.length)
    (q : ∀ h' tk', Led K g h' O (N.set j (intsD l (xs.set k.toNat x))) → Q () ⟨h', gs, dr, tk', os⟩) :
    wpAny (model prog w) A (setItem (.ref l) (.int k t) (.int x u)) Q E ⟨h, gs, dr, tk, os⟩ := by
  obtain ⟨vs, hl, hp⟩ := H.at hj
  have hlen := hp.length
  refine wpAny_setItem_list hl h0 hhi (by simp [hlen, hx]) (fun h' hl' hs => q h' _ (H.mod hj rfl (sameBut_e hs) ⟨vs.set k.toNat (.int x u), ?_, Paired.set ⟨u, rfl⟩ hp _⟩))
  simpa using hl'
end
end Mine
namespace Mine
section
variable {prog : Program} {w : World} {A : Around} {E : Value → Shared → Prop} {h : Heap} {gs : Array GenState} {dr : Drawn} {tk : Nat} {os : OsState} {env : Env} {a b : Int} {t u : Tok} {Q : Value → Shared → Prop}
theorem r_cint {k : Nat} {pos : Pos} (q : ∀ t tk', Q (.int a t) ⟨h, gs, dr, tk', os⟩) : wpAny (model prog w) A (eval (.Constant (.int a) k pos) env) Q E ⟨h, gs, dr, tk, os⟩ := wpAny_Constant_int (q _ _)
theorem r_cstr {x : Str} {k : Nat} {pos : Pos} (q : ∀ t tk', Q (.str x t) ⟨h, gs, dr, tk', os⟩) : wpAny (model prog w) A (eval (.Constant (.str x) k pos) env) Q E ⟨h, gs, dr, tk, os⟩ := Calls.Constant_str (q _ _)
theorem r_add (q : ∀ t tk', Q (.int (a + b) t) ⟨h, gs, dr, tk', os⟩) : wpAny (model prog w) A (binaryOp .Add (.int a t) (.int b u)) Q E ⟨h, gs, dr, tk, os⟩ := add_int (q _ _)
theorem r_sub (q : ∀ t tk', Q (.int (a - b) t) ⟨h, gs, dr, tk', os⟩) : wpAny (model prog w) A (binaryOp .Sub (.int a t) (.int b u)) Q E ⟨h, gs, dr, tk, os⟩ := sub_int (q _ _)
theorem r_mod (hb : 0 < b) (q : ∀ t tk', Q (.int (a % b) t) ⟨h, gs, dr, tk', os⟩) : wpAny (model prog w) A (binaryOp .Mod (.int a t) (.int b u)) Q E ⟨h, gs, dr, tk, os⟩ :=
  mod_int' (by (first | lia | omega)) (by rw [Int.fmod_eq_emod_of_nonneg _ (by (first | lia | omega))]; exact q _ _)
theorem r_addS {x y : Str} (hsz : x.length + y.length ≤ sizeLine) (q : ∀ t tk', Q (.str (x ++ y) t) ⟨h, gs, dr, tk', os⟩) : wpAny (model prog w) A (binaryOp .Add (.str x t) (.str y u)) Q E ⟨h, gs, dr, tk, os⟩ := add_str (fun t' tk' => q t' tk') hsz
end
end Mine
end

section
open PySem PySem.W PySem.Calls PyProof.Rows
namespace Mine
theorem ex5_4 {α0 α1 α2 α3 α4 : Type} {A0 A1 A2 A3 : α0 → α1 → α2 → α3 → α4 → Prop} {b : Prop} (h : ∃ x0 x1 x2 x3 x4, A0 x0 x1 x2 x3 x4 ∧ A1 x0 x1 x2 x3 x4 ∧ A2 x0 x1 x2 x3 x4 ∧ A3 x0 x1 x2 x3 x4) (k : ∀ x0 x1 x2 x3 x4, A0 x0 x1 x2 x3 x4 → A1 x0 x1 x2 x3 x4 → A2 x0 x1 x2 x3 x4 → A3 x0 x1 x2 x3 x4 → b) : b :=
  h.elim fun x0 h => h.elim fun x1 h => h.elim fun x2 h => h.elim fun x3 h => h.elim fun x4 h => k x0 x1 x2 x3 x4 (h.1) (h.2.1) (h.2.2.1) (h.2.2.2)
theorem ex4_5 {α0 α1 α2 α3 : Type} {A0 A1 A2 A3 A4 : α0 → α1 → α2 → α3 → Prop} {b : Prop} (h : ∃ x0 x1 x2 x3, A0 x0 x1 x2 x3 ∧ A1 x0 x1 x2 x3 ∧ A2 x0 x1 x2 x3 ∧ A3 x0 x1 x2 x3 ∧ A4 x0 x1 x2 x3) (k : ∀ x0 x1 x2 x3, A0 x0 x1 x2 x3 → A1 x0 x1 x2 x3 → A2 x0 x1 x2 x3 → A3 x0 x1 x2 x3 → A4 x0 x1 x2 x3 → b) : b :=
  h.elim fun x0 h => h.elim fun x1 h => h.elim fun x2 h => h.elim fun x3 h => k x0 x1 x2 x3 (h.1) (h.2.1) (h.2.2.1) (h.2.2.2.1) (h.2.2.2.2)
theorem ex2_2 {α0 α1 : Type} {A0 A1 : α0 → α1 → Prop} {b : Prop} (h : ∃ x0 x1, A0 x0 x1 ∧ A1 x0 x1) (k : ∀ x0 x1, A0 x0 x1 → A1 x0 x1 → b) : b :=
  h.elim fun x0 h => h.elim fun x1 h => k x0 x1 (h.1) (h.2)
theorem ex2_3 {α0 α1 : Type} {A0 A1 A2 : α0 → α1 → Prop} {b : Prop} (h : ∃ x0 x1, A0 x0 x1 ∧ A1 x0 x1 ∧ A2 x0 x1) (k : ∀ x0 x1, A0 x0 x1 → A1 x0 x1 → A2 x0 x1 → b) : b :=
  h.elim fun x0 h => h.elim fun x1 h => k x0 x1 (h.1) (h.2.1) (h.2.2)
theorem ex2_4 {α0 α1 : Type} {A0 A1 A2 A3 : α0 → α1 → Prop} {b : Prop} (h : ∃ x0 x1, A0 x0 x1 ∧ A1 x0 x1 ∧ A2 x0 x1 ∧ A3 x0 x1) (k : ∀ x0 x1, A0 x0 x1 → A1 x0 x1 → A2 x0 x1 → A3 x0 x1 → b) : b :=
  h.elim fun x0 h => h.elim fun x1 h => k x0 x1 (h.1) (h.2.1) (h.2.2.1) (h.2.2.2)
theorem ex2_5 {α0 α1 : Type} {A0 A1 A2 A3 A4 : α0 → α1 → Prop} {b : Prop} (h : ∃ x0 x1, A0 x0 x1 ∧ A1 x0 x1 ∧ A2 x0 x1 ∧ A3 x0 x1 ∧ A4 x0 x1) (k : ∀ x0 x1, A0 x0 x1 → A1 x0 x1 → A2 x0 x1 → A3 x0 x1 → A4 x0 x1 → b) : b :=
  h.elim fun x0 h => h.elim fun x1 h => k x0 x1 (h.1) (h.2.1) (h.2.2.1) (h.2.2.2.1) (h.2.2.2.2)
theorem ex2_8 {α0 α1 : Type} {A0 A1 A2 A3 A4 A5 A6 A7 : α0 → α1 → Prop} {b : Prop} (h : ∃ x0 x1, A0 x0 x1 ∧ A1 x0 x1 ∧ A2 x0 x1 ∧ A3 x0 x1 ∧ A4 x0 x1 ∧ A5 x0 x1 ∧ A6 x0 x1 ∧ A7 x0 x1) (k : ∀ x0 x1, A0 x0 x1 → A1 x0 x1 → A2 x0 x1 → A3 x0 x1 → A4 x0 x1 → A5 x0 x1 → A6 x0 x1 → A7 x0 x1 → b) : b :=
  h.elim fun x0 h => h.elim fun x1 h => k x0 x1 (h.1) (h.2.1) (h.2.2.1) (h.2.2.2.1) (h.2.2.2.2.1) (h.2.2.2.2.2.1) (h.2.2.2.2.2.2.1) (h.2.2.2.2.2.2.2)
theorem ex3_6 {α0 α1 α2 : Type} {A0 A1 A2 A3 A4 A5 : α0 → α1 → α2 → Prop} {b : Prop} (h : ∃ x0 x1 x2, A0 x0 x1 x2 ∧ A1 x0 x1 x2 ∧ A2 x0 x1 x2 ∧ A3 x0 x1 x2 ∧ A4 x0 x1 x2 ∧ A5 x0 x1 x2) (k : ∀ x0 x1 x2, A0 x0 x1 x2 → A1 x0 x1 x2 → A2 x0 x1 x2 → A3 x0 x1 x2 → A4 x0 x1 x2 → A5 x0 x1 x2 → b) : b :=
  h.elim fun x0 h => h.elim fun x1 h => h.elim fun x2 h => k x0 x1 x2 (h.1) (h.2.1) (h.2.2.1) (h.2.2.2.1) (h.2.2.2.2.1) (h.2.2.2.2.2)
theorem ex3_7 {α0 α1 α2 : Type} {A0 A1 A2 A3 A4 A5 A6 : α0 → α1 → α2 → Prop} {b : Prop} (h : ∃ x0 x1 x2, A0 x0 x1 x2 ∧ A1 x0 x1 x2 ∧ A2 x0 x1 x2 ∧ A3 x0 x1 x2 ∧ A4 x0 x1 x2 ∧ A5 x0 x1 x2 ∧ A6 x0 x1 x2) (k : ∀ x0 x1 x2, A0 x0 x1 x2 → A1 x0 x1 x2 → A2 x0 x1 x2 → A3 x0 x1 x2 → A4 x0 x1 x2 → A5 x0 x1 x2 → A6 x0 x1 x2 → b) : b :=
  h.elim fun x0 h => h.elim fun x1 h => h.elim fun x2 h => k x0 x1 x2 (h.1) (h.2.1) (h.2.2.1) (h.2.2.2.1) (h.2.2.2.2.1) (h.2.2.2.2.2.1) (h.2.2.2.2.2.2)
theorem ex4_8 {α0 α1 α2 α3 : Type} {A0 A1 A2 A3 A4 A5 A6 A7 : α0 → α1 → α2 → α3 → Prop} {b : Prop} (h : ∃ x0 x1 x2 x3, A0 x0 x1 x2 x3 ∧ A1 x0 x1 x2 x3 ∧ A2 x0 x1 x2 x3 ∧ A3 x0 x1 x2 x3 ∧ A4 x0 x1 x2 x3 ∧ A5 x0 x1 x2 x3 ∧ A6 x0 x1 x2 x3 ∧ A7 x0 x1 x2 x3) (k : ∀ x0 x1 x2 x3, A0 x0 x1 x2 x3 → A1 x0 x1 x2 x3 → A2 x0 x1 x2 x3 → A3 x0 x1 x2 x3 → A4 x0 x1 x2 x3 → A5 x0 x1 x2 x3 → A6 x0 x1 x2 x3 → A7 x0 x1 x2 x3 → b) : b :=
  h.elim fun x0 h => h.elim fun x1 h => h.elim fun x2 h => h.elim fun x3 h => k x0 x1 x2 x3 (h.1) (h.2.1) (h.2.2.1) (h.2.2.2.1) (h.2.2.2.2.1) (h.2.2.2.2.2.1) (h.2.2.2.2.2.2.1) (h.2.2.2.2.2.2.2)
theorem ex5_11 {α0 α1 α2 α3 α4 : Type} {A0 A1 A2 A3 A4 A5 A6 A7 A8 A9 A10 : α0 → α1 → α2 → α3 → α4 → Prop} {b : Prop} (h : ∃ x0 x1 x2 x3 x4, A0 x0 x1 x2 x3 x4 ∧ A1 x0 x1 x2 x3 x4 ∧ A2 x0 x1 x2 x3 x4 ∧ A3 x0 x1 x2 x3 x4 ∧ A4 x0 x1 x2 x3 x4 ∧ A5 x0 x1 x2 x3 x4 ∧ A6 x0 x1 x2 x3 x4 ∧ A7 x0 x1 x2 x3 x4 ∧ A8 x0 x1 x2 x3 x4 ∧ A9 x0 x1 x2 x3 x4 ∧ A10 x0 x1 x2 x3 x4) (k : ∀ x0 x1 x2 x3 x4, A0 x0 x1 x2 x3 x4 → A1 x0 x1 x2 x3 x4 → A2 x0 x1 x2 x3 x4 → A3 x0 x1 x2 x3 x4 → A4 x0 x1 x2 x3 x4 → A5 x0 x1 x2 x3 x4 → A6 x0 x1 x2 x3 x4 → A7 x0 x1 x2 x3 x4 → A8 x0 x1 x2 x3 x4 → A9 x0 x1 x2 x3 x4 → A10 x0 x1 x2 x3 x4 → b) : b :=
  h.elim fun x0 h => h.elim fun x1 h => h.elim fun x2 h => h.elim fun x3 h => h.elim fun x4 h => k x0 x1 x2 x3 x4 (h.1) (h.2.1) (h.2.2.1) (h.2.2.2.1) (h.2.2.2.2.1) (h.2.2.2.2.2.1) (h.2.2.2.2.2.2.1) (h.2.2.2.2.2.2.2.1) (h.2.2.2.2.2.2.2.2.1) (h.2.2.2.2.2.2.2.2.2.1) (h.2.2.2.2.2.2.2.2.2.2)
theorem ex6_8 {α0 α1 α2 α3 α4 α5 : Type} {A0 A1 A2 A3 A4 A5 A6 A7 : α0 → α1 → α2 → α3 → α4 → α5 → Prop} {b : Prop} (h : ∃ x0 x1 x2 x3 x4 x5, A0 x0 x1 x2 x3 x4 x5 ∧ A1 x0 x1 x2 x3 x4 x5 ∧ A2 x0 x1 x2 x3 x4 x5 ∧ A3 x0 x1 x2 x3 x4 x5 ∧ A4 x0 x1 x2 x3 x4 x5 ∧ A5 x0 x1 x2 x3 x4 x5 ∧ A6 x0 x1 x2 x3 x4 x5 ∧ A7 x0 x1 x2 x3 x4 x5) (k : ∀ x0 x1 x2 x3 x4 x5, A0 x0 x1 x2 x3 x4 x5 → A1 x0 x1 x2 x3 x4 x5 → A2 x0 x1 x2 x3 x4 x5 → A3 x0 x1 x2 x3 x4 x5 → A4 x0 x1 x2 x3 x4 x5 → A5 x0 x1 x2 x3 x4 x5 → A6 x0 x1 x2 x3 x4 x5 → A7 x0 x1 x2 x3 x4 x5 → b) : b :=
  h.elim fun x0 h => h.elim fun x1 h => h.elim fun x2 h => h.elim fun x3 h => h.elim fun x4 h => h.elim fun x5 h => k x0 x1 x2 x3 x4 x5 (h.1) (h.2.1) (h.2.2.1) (h.2.2.2.1) (h.2.2.2.2.1) (h.2.2.2.2.2.1) (h.2.2.2.2.2.2.1) (h.2.2.2.2.2.2.2)
theorem I_mk {I J : Nat → Heap → Prop} (e : I = J) {n : Nat} {h : Heap} (q : J n h) : I n h := by rw [e]; exact q
theorem I_out {I J : Nat → Heap → Prop} (e : I = J) {n : Nat} {h : Heap} (q : I n h) : J n h := by rw [← e]; exact q
theorem lookup_nd {α : Type} : ∀ {l : List (Str × α)}, (l.map Prod.fst).Nodup → ∀ p ∈ l, l.lookup p.1 = some p.2
  | [], _, _, h => (nomatch h)
  | (k, v) :: r, nd, p, h => by
    rw [List.map_cons, List.nodup_cons] at nd
    rw [List.lookup_cons]
    rcases List.mem_cons.mp h with rfl | h
    · simp
    · have : (p.1 == k) = false := beq_eq_false_iff_ne.mpr fun e => nd.1 (List.mem_map.mpr ⟨p, h, e⟩)
      rw [this]; exact lookup_nd nd.2 p h
section
variable {prog : Program} {w : World} {A : Around} {E : Value → Shared → Prop} {K : Frag} {g h : Heap} {O N : List HD} {gs : Array GenState} {dr : Drawn} {tk : Nat} {os : OsState} {env : Env}

theorem Led.adds {h0 : Heap} {O0 N0 D : List HD} (H0 : Led K g h0 O0 N0) (H : Led K g h O N) (hfp : (O ++ N).flatMap HD.fp = (O0 ++ N0).flatMap HD.fp)
    (hp : ∀ d ∈ D, d.P h) (hf : ∀ d ∈ D, ∀ a ∈ d.fp, h0.get? a = none) (hn : (D.flatMap HD.fp).Nodup) : Led K g h O (N ++ D) := by
  refine ⟨H.gd, fun x hx => ?_, ?_, fun x hx a ha => ?_, fun x hx a ha => ?_, H.keep⟩
  · rw [← List.append_assoc] at hx
    rcases List.mem_append.mp hx with q | q
    · exact H.all x q
    · exact hp x q
  · rw [← List.append_assoc, List.flatMap_append]
    refine List.nodup_append.mpr ⟨H.nd, hn, fun a ha b hb hab => ?_⟩
    subst hab
    rw [hfp] at ha
    obtain ⟨x, hx, hax⟩ := List.mem_flatMap.mp ha
    obtain ⟨y, hy, hay⟩ := List.mem_flatMap.mp hb
    obtain ⟨o, ho⟩ := H0.lo hx hax
    rw [hf y hy a hay] at ho; cases ho
  · rcases List.mem_append.mp hx with q | q
    · exact H.nw x q a ha
    · exact H0.fresh (hf x q a ha)
  · rw [← List.append_assoc] at hx
    rcases List.mem_append.mp hx with q | q
    · exact H.fr x q a ha
    · exact H0.gd.fre (hf x q a ha)

theorem r_enterN {R : Result → Shared → Prop} {f : Addr} {oc : Value} {od : Option Addr} {sl : Array (Option Value)} {fd : FuncData} {body : List Stmt} {args : List Value} {binds lv : List (Str × Value)} {D : Addr → List HD} {ns : List Str}
    (H : Led K h h O []) (hroom : A.depth < recursionLimit) (ho : K.lookup f = some ⟨oc, od, .func fd, sl⟩) (hcd : codeIn K fd.code fd.qualname = true) (hbody : fd.body = .stmts body)
    (hbind : bindArgs fd ⟨args, []⟩ = pure binds) (hclo : fd.closure = []) (hns : ∀ L, (cellsFrom L fd.scope.names []).map Prod.fst = ns) (hnd : ns.Nodup)
    (hD : ∀ L, (cellsFrom (L + 1) fd.scope.names []).map (fun p => cellD p.2 (bindC (callEnvC fd L f).kindOf binds (fun _ => none) p.1)) = D L)
    (hkind : ∀ L, ∀ x ∈ binds, fd.scope.names.lookup x.1 = some .local ∨ (fd.scope.names.lookup x.1 = some .cell ∧ ((cellsFrom L fd.scope.names []).lookup x.1).isSome = true))
    (hbl : ∀ L, bindL (callEnvC fd L f).kindOf binds (fun _ => none) = fun y => lv.lookup y)
    (hco : fd.scope.isCoroutine = false) (hgen : fd.scope.isGenerator = false) (hk : fd.scope.kind = .function)
    (q : ∀ (E' : Value → Shared → Prop) L h₁ tk₁, Led K h h₁ O (nsD L lv :: D L) → wpAny (model prog w) (A.deeper (callEnvC fd L f)) (execs body (callEnvC fd L f)) (fun fl s' => R (.ok (.ret (match fl with | .ret v => v | _ => .none))) s') E' ⟨h₁, gs, dr, tk₁, os⟩) :
    codeAny (model prog w) A (.call (.ref f) ⟨args, []⟩) R ⟨h, gs, dr, tk, os⟩ := by
  refine codeAny_call_cells (s := ⟨h, gs, dr, tk, os⟩) hroom (H.gd.frag f _ ho) rfl H.gd.nl (codeRec_of H.gd.frag hcd) hbody hbind hclo (hkind _) (fun s₁ I => ?_) hco hgen hk
  obtain ⟨h', tk', rfl, hkp⟩ := I.done
  have hns' : h'.Ns h.objs.size (fun y => lv.lookup y) := by have := I.toInCall.ns; rw [hbl] at this; exact this
  have hap : (cellsFrom (h.objs.size + 1) fd.scope.names []).Pairwise fun x y => x.2 ≠ y.2 := I.apart
  have hab : ∀ n c, (n, c) ∈ cellsFrom (h.objs.size + 1) fd.scope.names [] → h.objs.size < c := I.above
  have hfps : (D h.objs.size).flatMap HD.fp = (cellsFrom (h.objs.size + 1) fd.scope.names []).map Prod.snd := by
    rw [← hD]
    generalize cellsFrom (h.objs.size + 1) fd.scope.names [] = l
    induction l with
    | nil => rfl
    | cons p l ih => rw [List.map_cons, List.flatMap_cons, ih]; rfl
  have hmem : ∀ d ∈ D h.objs.size, ∃ p ∈ cellsFrom (h.objs.size + 1) fd.scope.names [], d = cellD p.2 (bindC (callEnvC fd h.objs.size f).kindOf binds (fun _ => none) p.1) := by
    intro d hd
    rw [← hD] at hd
    obtain ⟨p, hp, rfl⟩ := List.mem_map.mp hd
    exact ⟨p, hp, rfl⟩
  refine q _ h.objs.size h' tk' ?_
  refine (H.adds (D := nsD h.objs.size lv :: D h.objs.size) (H.ext hkp) rfl (fun d hd => ?_) (fun d hd a ha => ?_) ?_)
  · rcases List.mem_cons.mp hd with rfl | hd
    · exact hns'
    · obtain ⟨p, hp, rfl⟩ := hmem d hd
      exact I.cell p.1 p.2 (lookup_nd (by show ((cellsFrom (h.objs.size + 1) fd.scope.names []).map Prod.fst).Nodup; rw [hns]; exact hnd) p hp)
  · rcases List.mem_cons.mp hd with rfl | hd
    · cases List.mem_singleton.mp ha; exact none_size h
    · obtain ⟨p, hp, rfl⟩ := hmem d hd
      cases List.mem_singleton.mp ha
      exact Heap.get?_none_of_le (Nat.le_of_lt (hab p.1 p.2 hp))
  · rw [List.flatMap_cons, hfps]
    refine List.nodup_cons.mpr ⟨fun hm => ?_, List.pairwise_map.mpr hap⟩
    obtain ⟨p, hp, e⟩ := List.mem_map.mp hm
    have := hab p.1 p.2 hp
    exact Nat.lt_irrefl _ (Nat.lt_of_lt_of_le this (Nat.le_of_eq e))

theorem r_stoC {x : Str} {v : Value} {v₀ : Option Value} {c : Addr} {j : Nat} {Q : Unit → Shared → Prop} (H : Led K g h O N) (hj : N[j]? = some (cellD c v₀)) (hk : env.scope.kind = .function) (hl : env.kindOf x = some .cell) (hc : env.cells.lookup x = some c)
    (q : ∀ h', Led K g h' O (N.set j (cellD c (some v))) → Q () ⟨h', gs, dr, tk, os⟩) : wpAny (model prog w) A (storeName env x v) Q E ⟨h, gs, dr, tk, os⟩ :=
  wpAny_storeName_cell hk hl hc (H.at hj) (fun h' hv hs => q h' (H.mod hj rfl (sameBut_e hs) hv))

theorem Led.perm {N' : List HD} (H : Led K g h O N) (hp : N'.Perm N) : Led K g h O N' := by
  have hP : (O ++ N').Perm (O ++ N) := List.Perm.append_left _ hp
  exact ⟨H.gd, fun d hd => H.all d (hP.subset hd), (hP.flatMap_right HD.fp).nodup_iff.mpr H.nd, fun d hd => H.nw d (hp.subset hd), fun d hd => H.fr d (hP.subset hd), H.keep⟩

def CEnd (C D : Addr) (Q : Value → Shared → Prop) (s : Shared) : Prop := ∃ m, s.heap.Ns C m ∧ ∀ h', Heap.SameBut C s.heap h' → Q (.ref D) { s with heap := h' }
theorem CEnd.mk {C D : Addr} {lv : List (Str × Value)} {j : Nat} {Q : Value → Shared → Prop} (H : Led K g h O N) (hj : N[j]? = some (nsD C lv)) (q : ∀ h', Led K g h' O (N.eraseIdx j) → Q (.ref D) ⟨h', gs, dr, tk, os⟩) : CEnd C D Q ⟨h, gs, dr, tk, os⟩ :=
  ⟨_, H.at hj, fun h' hs => q h' (H.drop hj fun b o hb e => hs.extBut b o (by simpa [nsD] using hb) e)⟩

theorem compTurn_two0 (elt t0 i0 t1 i1 : PySem.Expr) (f0 f1 : List PySem.Expr) (scope : Scope) (pos : Pos) (it acc : Value) (env : Env) :
    compTurn (.ListComp elt [⟨t0, i0, f0, 0⟩, ⟨t1, i1, f1, 0⟩] scope pos) 0 it acc env = (do
      standAt i0.pos
      match ← pyNext it with
      | none => pure (.done .next)
      | some v =>
        letOwnedTupleGo t0 it v
        assign t0 env v
        let mut ok := true
        for c in f0 do
          if ok then ok ← isTrue c env (eval c env)
        if ok then
          let x ← eval i1 env
          standAt i1.pos
          let x ← foldedSetIterable i1 env x
          let _ ← runOwn (.compStart (.ListComp elt [⟨t0, i0, f0, 0⟩, ⟨t1, i1, f1, 0⟩] scope pos) 1 (← holding [x] (pyIter x)) acc env) env
        again (.compLoop (.ListComp elt [⟨t0, i0, f0, 0⟩, ⟨t1, i1, f1, 0⟩] scope pos) 0 it acc env)) := by rfl
theorem compTurn_two1 (elt t0 i0 t1 i1 : PySem.Expr) (f0 f1 : List PySem.Expr) (scope : Scope) (pos : Pos) (it acc : Value) (env : Env) :
    compTurn (.ListComp elt [⟨t0, i0, f0, 0⟩, ⟨t1, i1, f1, 0⟩] scope pos) 1 it acc env = (do
      standAt i1.pos
      match ← pyNext it with
      | none => pure (.done .next)
      | some v =>
        letOwnedTupleGo t1 it v
        assign t1 env v
        let mut ok := true
        for c in f1 do
          if ok then ok ← isTrue c env (eval c env)
        if ok then
          (do let _ ← call (.builtin "list.append") [acc, ← eval elt env])
        again (.compLoop (.ListComp elt [⟨t0, i0, f0, 0⟩, ⟨t1, i1, f1, 0⟩] scope pos) 1 it acc env)) := by rfl

theorem compStart_any {elt : PySem.Expr} {gens : List Comprehension} {scope : Scope} {pos : Pos} {d : Nat} {t i : PySem.Expr} {ifs : List PySem.Expr} {it acc : Value} {R : Result → Shared → Prop} {s : Shared} (hg : gens[d]? = some ⟨t, i, ifs, 0⟩)
    (hself : ∀ (Q : Value → Shared → Prop) E', Q it s → wpAny (model prog w) A (pyIter it) Q E' s)
    (h0 : codeAny (model prog w) A (.compLoop (.ListComp elt gens scope pos) d it acc env) R s) :
    codeAny (model prog w) A (.compStart (.ListComp elt gens scope pos) d it acc env) R s := by
  refine codeAny_of_tree ?_
  show wpAny _ A ((compStart (.ListComp elt gens scope pos) d it acc env).onRaise (fun x => do noteFrame x env; standAt theWindowsPlace)) _ _ s
  refine wpAny_notedAt ?_
  unfold compStart
  rw [show clausesOf (.ListComp elt gens scope pos) = gens from rfl, hg]
  show wpAny _ _ (ask >>= _) _ _ s
  refine wpAny_bind (wpAny_askSetting (wpAny_ite ?_))
  split
  · first
      | exact wpAny_bind (wpAny_pure (wpAny_pure (And.intro rfl h0)))
      | exact wpAny_pure (And.intro rfl h0)
  · first
      | exact wpAny_bind (wpAny_rule (wpAny_bind (wpAny_standAt (wpAny_bind (hself _ _ (wpAny_pure (And.intro rfl h0)))))))
      | (refine wpAny_bind (wpAny_rule ?_); show wpAny _ _ (standAt i.pos >>= _) _ _ s; exact wpAny_bind (wpAny_standAt (wpAny_bind (hself _ _ (wpAny_pure (And.intro rfl h0))))))

def UEnd (M : Model) (A : Around) (E : Value → Shared → Prop) (use : Option (Value → Sem Unit)) (C D : Addr) (Q : Value → Shared → Prop) (s : Shared) : Prop :=
  match use with
  | none => CEnd C D Q s
  | some u => wpAny M A (u (.ref D)) (fun _ s'' => ∃ m, s''.heap.Ns C m ∧ ∀ h', Heap.SameBut C s''.heap h' → Q .none { s'' with heap := h' }) E s

theorem comp_core {elt target iter : PySem.Expr} {ifs : List PySem.Expr} {scope : Scope} {pos : Pos} {cl : List (Str × Addr)} {use : Option (Value → Sem Unit)} {Q : Value → Shared → Prop}
    (hs : ∀ x, foldedSetIterable iter env x = pure x) (hclos : closureFor scope env = pure cl) (hcell : (scope.names.all fun x => x.2 != .cell) = true) (hkind : scope.kind = .function)
    (hnames : (scope.names.all fun x => decide (x.2 = .local → scope.names.lookup x.1 = some .local)) = true)
    (hq : wpAny (model prog w) A (eval iter env) (fun x s₁ => wpAny (model prog w) A (pyIter x) (fun it s₂ => ∃ (g h₂ : Heap) (tk₂ : Nat) (O N : List HD), s₂ = ⟨h₂, gs, dr, tk₂, os⟩ ∧ Led K g h₂ O N ∧ (∀ v, letOwnedTupleGo target it v = pure ()) ∧
      (∀ C D h₃ tk₃, Led K g h₃ O (nsD C [] :: (N ++ [plainD D []])) → (∀ (Q : Value → Shared → Prop) E', Q it ⟨h₃, gs, dr, tk₃, os⟩ → wpAny (model prog w) A (pyIter it) Q E' ⟨h₃, gs, dr, tk₃, os⟩) ∧
        ∃ (I : Nat → Heap → Prop) (n : Nat), I n h₃ ∧ 
        (∀ (E' : Value → Shared → Prop) n h tk, I n h → wpAny (model prog w) A (pyNext it) (fun r s₁ => match r with
          | none => UEnd (model prog w) A E use C D Q s₁
          | some v => wpAny (model prog w) A (assign target (compEnvC scope cl C env) v) (fun _ s₂ => wpAny (model prog w) A (forIn ifs true fun c r => if r = true then do let ok ← isTrue c (compEnvC scope cl C env) (eval c (compEnvC scope cl C env)); pure (ForInStep.yield ok) else pure (ForInStep.yield r)) (fun ok s₃ => if ok = true then wpAny (model prog w) A (eval elt (compEnvC scope cl C env)) (fun y s₄ =>
              wpAny (model prog w) A (call (.builtin "list.append") [.ref D, y]) (fun _ s₅ => Nx I n gs dr os s₅) E' s₄) E' s₃ else Nx I n gs dr os s₃) E' s₂) E' s₁) E' ⟨h, gs, dr, tk, os⟩))) E s₁) E ⟨h, gs, dr, tk, os⟩) :
    wpAny (model prog w) A (comprehension (.ListComp elt [⟨target, iter, ifs, 0⟩] scope pos) scope env (firstIterPos [⟨target, iter, ifs, 0⟩] pos) (newList []) false (eval iter env) use) Q E ⟨h, gs, dr, tk, os⟩ := by
  refine wpAny_comprehension_free (g := ⟨target, iter, ifs, 0⟩) (gs := []) rfl hs hclos hkind (fun x hx => of_decide_eq_true (List.all_eq_true.mp hnames x hx)) ?_
  refine wpAny_mono hq (fun x s₁ h₁ => wpAny_mono h₁ (fun it s₂ h₂ => ?_) fun _ _ e => e) fun _ _ e => e
  refine ex5_4 h₂ ?_
  clear h₂
  intro g h₂ tk₂ O N hs₂ H2 ht body
  subst hs₂
  refine wpAny_newObj_type ?_ (by size_fits)
  have H3 := H2.new (h' := h₂.push { cls := .type "list", dict := none, data := .seq ([] : List Value).toArray }) (d := plainD h₂.objs.size []) (push_e _) ⟨_, Heap.get?_push_size _ rfl⟩ (by intro a ha; cases List.mem_singleton.mp ha; exact none_size h₂) (by simp [plainD])
  dsimp only
  refine wpAny_newFunctionEnv (noCells hcell) (by intro y hy; simp at hy) (fun h₄ hns₄ hsb₄ => ?_) hkind
  have H4 := H3.new (h' := h₄) (d := nsD (h₂.push _).objs.size []) (fun b o e => hsb₄.extBut b o (Nat.ne_of_lt (Heap.lt_size e)) (Heap.get?_push_of_some _ e)) hns₄ (by intro a ha; cases List.mem_singleton.mp ha; exact none_size _) (by simp [nsD])
  have H5 := H4.perm (N' := nsD (h₂.push _).objs.size [] :: (N ++ [plainD h₂.objs.size []])) (List.perm_append_singleton _ _).symm
  have hbd := body (h₂.push { cls := .type "list", dict := none, data := .seq ([] : List Value).toArray }).objs.size h₂.objs.size h₄ tk₂ H5
  have hself := hbd.1
  refine ex2_2 hbd.2 ?_
  intro I n h0 turn
  clear hbd body
  refine compStart_any (t := target) (i := iter) (ifs := ifs) rfl (fun Q E' q => hself Q E' q) ?_
  refine codeAny_loop rfl (fun n s => ∃ h tk, I n h ∧ s = ⟨h, gs, dr, tk, os⟩) ?_ n ⟨h₄, _, h0, rfl⟩
  rintro n s ⟨h, tk, hI, rfl⟩
  show wpAny _ _ ((compTurn (.ListComp elt [⟨target, iter, ifs, 0⟩] scope pos) 0 it (.ref h₂.objs.size) _).onRaise (fun x => do noteFrame x _; theTreesLotGoes x)) _ _ _
  refine wpAny_noted ?_
  rw [compTurn_list]
  refine wpAny_bind (wpAny_standAt (wpAny_bind (wpAny_mono (turn _ n h tk hI) (fun r s₁ h₁ => ?_) fun _ _ h' => h')))
  cases r with
  | none =>
    refine wpAny_pure ?_
    unfold UEnd at h₁
    cases use with
    | none => exact h₁
    | some u => exact h₁
  | some v =>
    refine wpAny_bind (wpAny_of_eq (ht v) ?_)
    refine wpAny_bind (wpAny_mono h₁ (fun _ s₂ h₂ => wpAny_bind (wpAny_mono h₂ (fun ok s₃ h₃ => ?_) fun _ _ h' => h')) fun _ _ h' => h')
    cases ok with
    | false =>
      obtain ⟨hm, hI⟩ : Nx I n gs dr os s₃ := h₃
      exact wpAny_pure ⟨rfl, _, hm, _, _, hI, rfl⟩
    | true =>
      exact wpAny_bind (wpAny_bind (wpAny_mono h₃ (fun x s₄ h₄ => wpAny_bind (wpAny_mono h₄ (fun _ s₅ h₅ => wpAny_pure (wpAny_pure ⟨rfl, by obtain ⟨hm, hI⟩ := h₅; exact ⟨_, hm, _, _, hI, rfl⟩⟩)) fun _ _ h' => h')) fun _ _ h' => h'))

theorem comp_core2 {elt t0 i0 t1 i1 : PySem.Expr} {f0 f1 : List PySem.Expr} {scope : Scope} {pos : Pos} {cl : List (Str × Addr)} {use : Option (Value → Sem Unit)} {Q : Value → Shared → Prop}
    (hs : ∀ x, foldedSetIterable i0 env x = pure x) (hs1 : ∀ env x, foldedSetIterable i1 env x = pure x) (hclos : closureFor scope env = pure cl) (hcell : (scope.names.all fun x => x.2 != .cell) = true) (hkind : scope.kind = .function)
    (hnames : (scope.names.all fun x => decide (x.2 = .local → scope.names.lookup x.1 = some .local)) = true)
    (hq : wpAny (model prog w) A (eval i0 env) (fun x s₁ => wpAny (model prog w) A (pyIter x) (fun it s₂ => ∃ (g h₂ : Heap) (tk₂ : Nat) (O N : List HD), s₂ = ⟨h₂, gs, dr, tk₂, os⟩ ∧ Led K g h₂ O N ∧ (∀ v, letOwnedTupleGo t0 it v = pure ()) ∧
      (∀ C D h₃ tk₃, Led K g h₃ O (nsD C [] :: (N ++ [plainD D []])) → (∀ (Q : Value → Shared → Prop) E', Q it ⟨h₃, gs, dr, tk₃, os⟩ → wpAny (model prog w) A (pyIter it) Q E' ⟨h₃, gs, dr, tk₃, os⟩) ∧
        ∃ (I : Nat → Heap → Prop) (n : Nat), I n h₃ ∧ 
        (∀ (E' : Value → Shared → Prop) n h tk, I n h → wpAny (model prog w) A (pyNext it) (fun r s₁ => match r with
          | none => UEnd (model prog w) A E use C D Q s₁
          | some v => wpAny (model prog w) A (assign t0 (compEnvC scope cl C env) v) (fun _ s₂ => wpAny (model prog w) A (forIn f0 true fun c r => if r = true then do let ok ← isTrue c (compEnvC scope cl C env) (eval c (compEnvC scope cl C env)); pure (ForInStep.yield ok) else pure (ForInStep.yield r)) (fun ok s₃ => if ok = true then
              wpAny (model prog w) A (eval i1 (compEnvC scope cl C env)) (fun x s₄ => wpAny (model prog w) A (pyIter x) (fun it1 s₅ => ∃ (J : Nat → Heap → Prop) (m : Nat) (h₅ : Heap) (tk₅ : Nat), s₅ = ⟨h₅, gs, dr, tk₅, os⟩ ∧ J m h₅ ∧ (∀ v, letOwnedTupleGo t1 it1 v = pure ()) ∧
                (∀ (Q : Value → Shared → Prop) E', Q it1 ⟨h₅, gs, dr, tk₅, os⟩ → wpAny (model prog w) A (pyIter it1) Q E' ⟨h₅, gs, dr, tk₅, os⟩) ∧
                (∀ (E'' : Value → Shared → Prop) m h tk, J m h → wpAny (model prog w) A (pyNext it1) (fun r s₁ => match r with
                  | none => Nx I n gs dr os s₁
                  | some v => wpAny (model prog w) A (assign t1 (compEnvC scope cl C env) v) (fun _ s₂ => wpAny (model prog w) A (forIn f1 true fun c r => if r = true then do let ok ← isTrue c (compEnvC scope cl C env) (eval c (compEnvC scope cl C env)); pure (ForInStep.yield ok) else pure (ForInStep.yield r)) (fun ok s₃ => if ok = true then wpAny (model prog w) A (eval elt (compEnvC scope cl C env)) (fun y s₄ =>
                      wpAny (model prog w) A (call (.builtin "list.append") [.ref D, y]) (fun _ s₅ => Nx J m gs dr os s₅) E'' s₄) E'' s₃ else Nx J m gs dr os s₃) E'' s₂) E'' s₁) E'' ⟨h, gs, dr, tk, os⟩)) E' s₄) E' s₃
              else Nx I n gs dr os s₃) E' s₂) E' s₁) E' ⟨h, gs, dr, tk, os⟩))) E s₁) E ⟨h, gs, dr, tk, os⟩) :
    wpAny (model prog w) A (comprehension (.ListComp elt [⟨t0, i0, f0, 0⟩, ⟨t1, i1, f1, 0⟩] scope pos) scope env (firstIterPos [⟨t0, i0, f0, 0⟩, ⟨t1, i1, f1, 0⟩] pos) (newList []) false (eval i0 env) use) Q E ⟨h, gs, dr, tk, os⟩ := by
  refine wpAny_comprehension_free (g := ⟨t0, i0, f0, 0⟩) (gs := [⟨t1, i1, f1, 0⟩]) rfl hs hclos hkind (fun x hx => of_decide_eq_true (List.all_eq_true.mp hnames x hx)) ?_
  refine wpAny_mono hq (fun x s₁ h₁ => wpAny_mono h₁ (fun it s₂ h₂ => ?_) fun _ _ e => e) fun _ _ e => e
  refine ex5_4 h₂ ?_
  clear h₂
  intro g h₂ tk₂ O N hs₂ H2 ht body
  subst hs₂
  refine wpAny_newObj_type ?_ (by size_fits)
  have H3 := H2.new (h' := h₂.push { cls := .type "list", dict := none, data := .seq ([] : List Value).toArray }) (d := plainD h₂.objs.size []) (push_e _) ⟨_, Heap.get?_push_size _ rfl⟩ (by intro a ha; cases List.mem_singleton.mp ha; exact none_size h₂) (by simp [plainD])
  dsimp only
  refine wpAny_newFunctionEnv (noCells hcell) (by intro y hy; simp at hy) (fun h₄ hns₄ hsb₄ => ?_) hkind
  have H4 := H3.new (h' := h₄) (d := nsD (h₂.push _).objs.size []) (fun b o e => hsb₄.extBut b o (Nat.ne_of_lt (Heap.lt_size e)) (Heap.get?_push_of_some _ e)) hns₄ (by intro a ha; cases List.mem_singleton.mp ha; exact none_size _) (by simp [nsD])
  have H5 := H4.perm (N' := nsD (h₂.push _).objs.size [] :: (N ++ [plainD h₂.objs.size []])) (List.perm_append_singleton _ _).symm
  have hbd := body (h₂.push { cls := .type "list", dict := none, data := .seq ([] : List Value).toArray }).objs.size h₂.objs.size h₄ tk₂ H5
  have hself := hbd.1
  refine ex2_2 hbd.2 ?_
  intro I n h0 turn
  clear hbd body
  refine compStart_any (t := t0) (i := i0) (ifs := f0) rfl (fun Q E' q => hself Q E' q) ?_
  refine codeAny_loop rfl (fun n s => ∃ h tk, I n h ∧ s = ⟨h, gs, dr, tk, os⟩) ?_ n ⟨h₄, _, h0, rfl⟩
  rintro n s ⟨h, tk, hI, rfl⟩
  show wpAny _ _ ((compTurn (.ListComp elt [⟨t0, i0, f0, 0⟩, ⟨t1, i1, f1, 0⟩] scope pos) 0 it (.ref h₂.objs.size) _).onRaise (fun x => do noteFrame x _; theTreesLotGoes x)) _ _ _
  refine wpAny_noted ?_
  rw [compTurn_two0]
  refine wpAny_bind (wpAny_standAt (wpAny_bind (wpAny_mono (turn _ n h tk hI) (fun r s₁ h₁ => ?_) fun _ _ h' => h')))
  cases r with
  | none =>
    refine wpAny_pure ?_
    unfold UEnd at h₁
    cases use with
    | none => exact h₁
    | some u => exact h₁
  | some v =>
    refine wpAny_bind (wpAny_of_eq (ht v) ?_)
    refine wpAny_bind (wpAny_mono h₁ (fun _ s₂ h₂ => wpAny_bind (wpAny_mono h₂ (fun ok s₃ h₃ => ?_) fun _ _ h' => h')) fun _ _ h' => h')
    cases ok with
    | false =>
      obtain ⟨hm, hI⟩ : Nx I n gs dr os s₃ := h₃
      exact wpAny_pure ⟨rfl, _, hm, _, _, hI, rfl⟩
    | true =>
      refine wpAny_bind (wpAny_mono h₃ (fun x s₄ h₄ => wpAny_bind (wpAny_standAt (wpAny_bind (wpAny_of_eq (hs1 _ x) (wpAny_bind (wpAny_holding (wpAny_mono h₄ (fun it1 s₅ h₅ => ?_) fun _ _ h' => h'))))))) fun _ _ h' => h')
      refine ex4_5 h₅ ?_
      clear h₅
      intro J m h₅ tk₅ hs₅ hJ ht1 hself1 turn1
      subst hs₅
      refine wpAny_bind (wpAny_runOwn (compStart_any (t := t1) (i := i1) (ifs := f1) rfl (fun Q E' q => hself1 Q E' q) ?_))
      refine codeAny_loop rfl (fun n s => ∃ h tk, J n h ∧ s = ⟨h, gs, dr, tk, os⟩) ?_ m ⟨h₅, tk₅, hJ, rfl⟩
      rintro m s ⟨h, tk, hJ, rfl⟩
      show wpAny _ _ ((compTurn (.ListComp elt [⟨t0, i0, f0, 0⟩, ⟨t1, i1, f1, 0⟩] scope pos) 1 it1 _ _).onRaise (fun x => do noteFrame x _; theTreesLotGoes x)) _ _ _
      refine wpAny_noted ?_
      rw [compTurn_two1]
      refine wpAny_bind (wpAny_standAt (wpAny_bind (wpAny_mono (turn1 _ m h tk hJ) (fun r s₁ h₁ => ?_) fun _ _ h' => h')))
      cases r with
      | none =>
        obtain ⟨hm, hI⟩ : Nx I n gs dr os s₁ := h₁
        exact wpAny_pure (wpAny_pure ⟨rfl, _, hm, _, _, hI, rfl⟩)
      | some v =>
        refine wpAny_bind (wpAny_of_eq (ht1 v) ?_)
        refine wpAny_bind (wpAny_mono h₁ (fun _ s₂ h₂ => wpAny_bind (wpAny_mono h₂ (fun ok s₃ h₃ => ?_) fun _ _ h' => h')) fun _ _ h' => h')
        cases ok with
        | false =>
          obtain ⟨hm, hI⟩ : Nx J m gs dr os s₃ := h₃
          exact wpAny_pure ⟨rfl, _, hm, _, _, hI, rfl⟩
        | true =>
          exact wpAny_bind (wpAny_bind (wpAny_mono h₃ (fun x s₄ h₄ => wpAny_bind (wpAny_mono h₄ (fun _ s₅ h₅ => wpAny_pure (wpAny_pure ⟨rfl, by obtain ⟨hm, hI⟩ := h₅; exact ⟨_, hm, _, _, hI, rfl⟩⟩)) fun _ _ h' => h')) fun _ _ h' => h'))
end
end Mine
end

section
open PySem PySem.W PySem.Calls PyProof.Rows
namespace Mine
structure Itr (prog : Program) (w : World) (A : Around) (K : Frag) (g : Heap) (gs : Array GenState) (dr : Drawn) (os : OsState) (it : Addr) (itD : Nat → HD) (n : Nat) (V : Nat → Value → Prop) (S : Heap → Prop) : Prop where
  fp : ∀ i, (itD i).fp = [it]
  next : ∀ {O N : List HD} {h : Heap} {tk i j : Nat} {Q : Option Value → Shared → Prop} {E : Value → Shared → Prop}, Led K g h O N → N[j]? = some (itD i) → S h → i < n →
    (∀ v h' tk', V i v → Led K g h' O (N.set j (itD (i + 1))) → Q (some v) ⟨h', gs, dr, tk', os⟩) → wpAny (model prog w) A (pyNext (.ref it)) Q E ⟨h, gs, dr, tk, os⟩
  stop : ∀ {O N : List HD} {h : Heap} {tk j : Nat} {Q : Option Value → Shared → Prop} {E : Value → Shared → Prop}, Led K g h O N → N[j]? = some (itD n) → S h →
    (∀ h' tk', Led K g h' O (N.eraseIdx j) → Q none ⟨h', gs, dr, tk', os⟩) → wpAny (model prog w) A (pyNext (.ref it)) Q E ⟨h, gs, dr, tk, os⟩
  self : ∀ {O N : List HD} {h : Heap} {tk i j : Nat} {Q : Value → Shared → Prop} {E : Value → Shared → Prop}, Led K g h O N → N[j]? = some (itD i) → Q (.ref it) ⟨h, gs, dr, tk, os⟩ → wpAny (model prog w) A (pyIter (.ref it)) Q E ⟨h, gs, dr, tk, os⟩

def liD (it l : Addr) (i : Nat) : HD where
  fp := [it]
  P h := h.IsListIter it l i
  st h h' e p := let ⟨o, ho, r⟩ := p; ⟨o, e it (.head _) _ ho, r⟩
  al h p b hb := by cases hb with | head => (obtain ⟨o, ho, _⟩ := p; exact ⟨o, ho⟩) | tail _ q => cases q
def siD (it : Addr) (x : Str) (t : Tok) (i : Nat) : HD where
  fp := [it]
  P h := h.IsStrIter it "str_ascii_iterator" x t i
  st h h' e p := let ⟨o, ho, r⟩ := p; ⟨o, e it (.head _) _ ho, r⟩
  al h p b hb := by cases hb with | head => (obtain ⟨o, ho, _⟩ := p; exact ⟨o, ho⟩) | tail _ q => cases q

section
variable {prog : Program} {w : World} {A : Around} {E : Value → Shared → Prop} {K : Frag} {g h : Heap} {O N : List HD} {gs : Array GenState} {dr : Drawn} {tk : Nat} {os : OsState} {env : Env}

theorem r_iterL {l : Addr} {items : Array Value} {Q : Value → Shared → Prop} (H : Led K g h O N) (hl : h.IsList l items)
    (q : ∀ it h' tk', Led K g h' O (N ++ [liD it l 0]) → Q (.ref it) ⟨h', gs, dr, tk', os⟩) : wpAny (model prog w) A (pyIter (.ref l)) Q E ⟨h, gs, dr, tk, os⟩ :=
  wpAny_pyIter_list hl (q _ _ _ (H.new (push_e _) ⟨_, Heap.get?_push_size _ rfl, rfl, rfl⟩ (by intro a ha; cases List.mem_singleton.mp ha; exact none_size h) (by simp [liD])))
theorem r_nextL {it l : Addr} {i j : Nat} {items : Array Value} {x : Value} {Q : Option Value → Shared → Prop} (H : Led K g h O N) (hj : N[j]? = some (liD it l i)) (hl : h.IsList l items) (hx : items[i]? = some x)
    (q : ∀ h' tk', Led K g h' O (N.set j (liD it l (i + 1))) → Q (some x) ⟨h', gs, dr, tk', os⟩) : wpAny (model prog w) A (pyNext (.ref it)) Q E ⟨h, gs, dr, tk, os⟩ :=
  wpAny_pyNext_list_item (H.at hj) hl hx (fun h' hi hs => q h' _ (H.mod hj rfl (sameBut_e hs) hi))
theorem r_nextL_end {it l : Addr} {i j : Nat} {items : Array Value} {Q : Option Value → Shared → Prop} (H : Led K g h O N) (hh : A.handled = none) (hj : N[j]? = some (liD it l i)) (hl : h.IsList l items) (hx : items[i]? = none)
    (q : ∀ h' tk', Led K g h' O (N.eraseIdx j) → Q none ⟨h', gs, dr, tk', os⟩) : wpAny (model prog w) A (pyNext (.ref it)) Q E ⟨h, gs, dr, tk, os⟩ :=
  wpAny_pyNext_list_end hh (H.at hj) hl hx (fun h' he => q h' _ (H.drop hj fun b o hb e => he b o (by simpa [liD] using hb) e))

theorem itr_list {it l : Addr} {items : List Value} (hh : A.handled = none) : Itr prog w A K g gs dr os it (fun i => liD it l i) items.length (fun i v => items[i]? = some v) (fun h => h.IsList l items.toArray) where
  fp _ := rfl
  next H hj hl hi q := r_nextL H hj hl (x := items[_]'hi) (by simp [hi]) (fun h' tk' H' => q _ h' tk' (List.getElem?_eq_getElem hi) H')
  stop H hj hl q := r_nextL_end H hh hj hl (by simp) q
  self H hj q := wpAny_pyIter_listiter (H.at hj) q
theorem itr_range {it : Addr} {a c : Int} {n : Nat} (hh : A.handled = none) : Itr prog w A K g gs dr os it (fun i => riD it (a + i * c) ((n : Int) - i) c) n (fun i v => ∃ t, v = .int (a + i * c) t) (fun _ => True) where
  fp _ := rfl
  next {O N h tk i j Q E} H hj _ hi q := r_nextR H hj (by (first | lia | omega)) (fun t h' tk' H' => q _ h' tk' ⟨t, rfl⟩ (by
    rw [show a + ((i + 1 : Nat) : Int) * c = a + (i : Int) * c + c by rw [Int.natCast_add, Int.add_mul]; (first | lia | omega), show ((n : Int) - ((i + 1 : Nat) : Int)) = (n : Int) - i - 1 by (first | lia | omega)]; exact H'))
  stop H hj _ q := r_nextR_end H hh hj (by (first | lia | omega)) q
  self H hj q := wpAny_pyIter_rangeiter (H.at hj) q
theorem itr_str {it : Addr} {x : Str} {t : Tok} (hh : A.handled = none) : Itr prog w A K g gs dr os it (fun i => siD it x t i) x.cps.size (fun i v => ∃ c u, x.cps[i]? = some c ∧ v = .str ⟨#[c]⟩ u) (fun _ => True) where
  fp _ := rfl
  next {O N h tk i j Q E} H hj _ hi q := wpAny_pyNext_ascii_item (H.at hj) (Array.getElem?_eq_getElem hi) (fun h' hi' hs => q _ h' _ ⟨_, _, Array.getElem?_eq_getElem hi, rfl⟩ (H.mod hj rfl (sameBut_e hs) hi'))
  stop {O N h tk j Q E} H hj _ q := wpAny_pyNext_ascii_end hh (H.at hj) (by simp) (fun h' he => q h' _ (H.drop hj fun b o hb e => he b o (by simpa [siD] using hb) e))
  self H hj q := wpAny_pyIter_striter_ascii (H.at hj) q

theorem r_iterS {x : Str} {t : Tok} {Q : Value → Shared → Prop} (H : Led K g h O N) (ha : x.cps.all (· < 128) = true)
    (q : ∀ it h' tk', Led K g h' O (N ++ [siD it x t 0]) → Q (.ref it) ⟨h', gs, dr, tk', os⟩) : wpAny (model prog w) A (pyIter (.str x t)) Q E ⟨h, gs, dr, tk, os⟩ :=
  wpAny_pyIter_ascii ha (q _ _ _ (H.new (push_e _) ⟨_, Heap.get?_push_size _ rfl, rfl, rfl⟩ (by intro a ha; cases List.mem_singleton.mp ha; exact none_size h) (by simp [siD])))

theorem wpAny_tests_one' {env : Env} {c : PySem.Expr} {Q : Bool → Shared → Prop} {s : Shared} (h : wpAny (model prog w) A (isTrue c env (eval c env)) Q E s) :
    wpAny (model prog w) A (forIn [c] true fun c r => if r = true then do let ok ← isTrue c env (eval c env); pure (ForInStep.yield ok) else pure (ForInStep.yield r)) Q E s := wpAny_tests_one h

theorem mid_get {M : List HD} {a b c : HD} : (a :: (M ++ [b, c]))[M.length + 1]? = some b := by simp
theorem mid_set {M : List HD} {a b c d : HD} : (a :: (M ++ [b, c])).set (M.length + 1) d = a :: (M ++ [d, c]) := by simp
theorem mid_erase {M : List HD} {a b c : HD} : (a :: (M ++ [b, c])).eraseIdx (M.length + 1) = a :: (M ++ [c]) := by
  rw [List.eraseIdx_cons_succ, List.eraseIdx_append_of_length_le (Nat.le_refl _)]; simp
theorem last_get {M : List HD} {a b c : HD} : (a :: (M ++ [b, c]))[M.length + 2]? = some c := by simp
theorem last_set {M : List HD} {a b c d : HD} : (a :: (M ++ [b, c])).set (M.length + 2) d = a :: (M ++ [b, d]) := by simp

theorem range_succ_map {β : Type} (f : Nat → β) (i : Nat) : (List.range (i + 1)).map f = (List.range i).map f ++ [f i] := by rw [List.range_succ, List.map_append]; rfl
theorem range_succ_filterMap {β : Type} (f : Nat → Option β) (i : Nat) : (List.range (i + 1)).filterMap f = (List.range i).filterMap f ++ (f i).toList := by
  rw [List.range_succ, List.filterMap_append]; cases h : f i <;> simp [h]

def TP {β : Type} (K : Frag) (g : Heap) (gs : Array GenState) (dr : Drawn) (os : OsState) (F : Value → β → Prop) (z : β) (O NN : List HD) (y : Value) (s : Shared) : Prop :=
  ∃ h' tk', s = ⟨h', gs, dr, tk', os⟩ ∧ F y z ∧ Led K g h' O NN
theorem TP.mk {β : Type} {F : Value → β → Prop} {z : β} {NN : List HD} {y : Value} (e : NN = N) (hF : F y z) (H : Led K g h O N) : TP K g gs dr os F z O NN y ⟨h, gs, dr, tk, os⟩ := by
  subst e; exact ⟨_, _, rfl, hF, H⟩
def TQ (K : Frag) (g : Heap) (gs : Array GenState) (dr : Drawn) (os : OsState) (z : Bool) (O NN : List HD) (b : Bool) (s : Shared) : Prop :=
  ∃ h' tk', s = ⟨h', gs, dr, tk', os⟩ ∧ b = z ∧ Led K g h' O NN
theorem TQ.mk {z b : Bool} {NN : List HD} (e : NN = N) (hb : b = z) (H : Led K g h O N) : TQ K g gs dr os z O NN b ⟨h, gs, dr, tk, os⟩ := by
  subst e; exact ⟨_, _, rfl, hb, H⟩
@[reducible] def CM {β : Type} (prog : Program) (w : World) (A : Around) (E : Value → Shared → Prop) (K : Frag) (g : Heap) (gs : Array GenState) (dr : Drawn) (os : OsState) (env : Env) (elt : PySem.Expr) (x : Str) (scope : Scope) (cl : List (Str × Addr)) (use : Option (Value → Sem Unit)) (Q : Value → Shared → Prop)
    (n : Nat) (F : Value → β → Prop) (f : Nat → β) (OO : Nat → List HD) (N : List HD) (itv : Value) (s₂ : Shared) : Prop :=
  ∃ (it : Addr) (itD : Nat → HD) (V : Nat → Value → Prop) (S : Heap → Prop) (h₂ : Heap) (tk₂ : Nat), itv = .ref it ∧ s₂ = ⟨h₂, gs, dr, tk₂, os⟩ ∧
      Itr prog w A K g gs dr os it itD n V S ∧ Led K g h₂ (OO 0) (N ++ [itD 0]) ∧ (∀ i a c h, Led K g h (OO i) (a :: (N ++ [itD i, c])) → S h) ∧
      (∀ (E' : Value → Shared → Prop) C D i lv acc v h tk NN, NN = nsD C lv :: (N ++ [itD (i + 1), plainD D acc]) → i < n → V i v → lv.lookup x = some v → acc.length = i → Led K g h (OO i) (nsD C lv :: (N ++ [itD (i + 1), plainD D acc])) →
        wpAny (model prog w) A (eval elt (compEnvC scope cl C env)) (TP K g gs dr os F (f i) (OO (i + 1)) NN) E' ⟨h, gs, dr, tk, os⟩) ∧
      (∀ C D lv acc h' tk', Paired F acc ((List.range n).map f) → Led K g h' (OO n) (nsD C lv :: (N ++ [plainD D acc])) → UEnd (model prog w) A E use C D Q ⟨h', gs, dr, tk', os⟩)
@[reducible] def CF {β : Type} (prog : Program) (w : World) (A : Around) (E : Value → Shared → Prop) (K : Frag) (g : Heap) (gs : Array GenState) (dr : Drawn) (os : OsState) (env : Env) (elt test : PySem.Expr) (x : Str) (scope : Scope) (cl : List (Str × Addr)) (use : Option (Value → Sem Unit)) (Q : Value → Shared → Prop)
    (n : Nat) (F : Value → β → Prop) (f : Nat → Option β) (OO : Nat → List HD) (N : List HD) (itv : Value) (s₂ : Shared) : Prop :=
  ∃ (it : Addr) (itD : Nat → HD) (V : Nat → Value → Prop) (S : Heap → Prop) (h₂ : Heap) (tk₂ : Nat), itv = .ref it ∧ s₂ = ⟨h₂, gs, dr, tk₂, os⟩ ∧
      Itr prog w A K g gs dr os it itD n V S ∧ Led K g h₂ (OO 0) (N ++ [itD 0]) ∧ (∀ i a c h, Led K g h (OO i) (a :: (N ++ [itD i, c])) → S h) ∧
      (∀ (E' : Value → Shared → Prop) C D i lv acc v h tk NN, NN = nsD C lv :: (N ++ [itD (i + 1), plainD D acc]) → i < n → V i v → lv.lookup x = some v → acc.length ≤ i → Led K g h (OO i) (nsD C lv :: (N ++ [itD (i + 1), plainD D acc])) →
        wpAny (model prog w) A (isTrue test (compEnvC scope cl C env) (eval test (compEnvC scope cl C env))) (TQ K g gs dr os (f i).isSome (OO (i + 1)) NN) E' ⟨h, gs, dr, tk, os⟩) ∧
      (∀ (E' : Value → Shared → Prop) C D i lv acc v h tk z NN, NN = nsD C lv :: (N ++ [itD (i + 1), plainD D acc]) → i < n → V i v → f i = some z → lv.lookup x = some v → acc.length ≤ i → Led K g h (OO (i + 1)) (nsD C lv :: (N ++ [itD (i + 1), plainD D acc])) →
        wpAny (model prog w) A (eval elt (compEnvC scope cl C env)) (TP K g gs dr os F z (OO (i + 1)) NN) E' ⟨h, gs, dr, tk, os⟩) ∧
      (∀ C D lv acc h' tk', Paired F acc ((List.range n).filterMap f) → Led K g h' (OO n) (nsD C lv :: (N ++ [plainD D acc])) → UEnd (model prog w) A E use C D Q ⟨h', gs, dr, tk', os⟩)
theorem comp_map {β : Type} {elt iter : PySem.Expr} {x : Str} {px : Pos} {scope : Scope} {pos : Pos} {cl : List (Str × Addr)} {use : Option (Value → Sem Unit)} {Q : Value → Shared → Prop}
    (n : Nat) (F : Value → β → Prop) (f : Nat → β) (OO : Nat → List HD) (N : List HD) (hn : n < 8000)
    (hs : ∀ x, foldedSetIterable iter env x = pure x) (hclos : closureFor scope env = pure cl) (hcell : (scope.names.all fun x => x.2 != .cell) = true) (hkind : scope.kind = .function)
    (hnames : (scope.names.all fun x => decide (x.2 = .local → scope.names.lookup x.1 = some .local)) = true) (hx : scope.names.lookup x = some .local)
    (hq : wpAny (model prog w) A (eval iter env) (fun xv s₁ => wpAny (model prog w) A (pyIter xv) (CM prog w A E K g gs dr os env elt x scope cl use Q n F f OO N) E s₁) E ⟨h, gs, dr, tk, os⟩) :
    wpAny (model prog w) A (comprehension (.ListComp elt [⟨.Name x px, iter, [], 0⟩] scope pos) scope env (firstIterPos [⟨.Name x px, iter, [], 0⟩] pos) (newList []) false (eval iter env) use) Q E ⟨h, gs, dr, tk, os⟩ := by
  refine comp_core (K := K) hs hclos hcell hkind hnames (wpAny_mono hq (fun xv s₁ h₁ => wpAny_mono h₁ (fun itv s₂ h₂ => ?_) fun _ _ e => e) fun _ _ e => e)
  obtain ⟨it, itD, V, S, h₂, tk₂, rfl, rfl, W, H2, hS, turn, fin⟩ := h₂
  refine ⟨g, h₂, tk₂, OO 0, N ++ [itD 0], rfl, H2, by intro _; rfl, fun C D h₃ tk₃ H3 => ?_⟩
  have e0 : N ++ [itD 0] ++ [plainD D []] = N ++ [itD 0, plainD D []] := by simp
  rw [e0] at H3
  obtain ⟨I, hI⟩ : ∃ I : Nat → Heap → Prop, I = (fun m h' => ∃ i lv acc, m = n - i ∧ i ≤ n ∧ acc.length = i ∧ Paired F acc ((List.range i).map f) ∧ Led K g h' (OO i) (nsD C lv :: (N ++ [itD i, plainD D acc]))) := ⟨_, rfl⟩
  refine ⟨fun Q E' q => W.self (j := N.length + 1) H3 mid_get q, I, n, I_mk hI ⟨0, [], [], by (first | lia | omega), by (first | lia | omega), rfl, .nil, H3⟩, ?_⟩
  intro E' m h tk hJ
  obtain ⟨i, lv, acc, rfl, hi, hacc, hp, H⟩ := I_out hI hJ
  clear hJ
  by_cases hlt : i < n
  · refine W.next (j := N.length + 1) H mid_get (hS _ _ _ _ H) hlt (fun v h' tk' hv H' => ?_)
    rw [mid_set] at H'
    refine wpAny_assign_Name (r_sto (L := C) (lv := lv) H' (by rfl) (by rfl) (by show (relabel scope env).kind = _; simp [relabel, hkind]) (lookup_relabel_local hx) (fun h'' tk'' H'' => ?_))
    simp only [List.set_cons_zero] at H''
    refine wpAny_tests_nil ?_
    rw [if_pos rfl]
    refine wpAny_mono (turn E' C D i _ acc v h'' tk'' _ rfl hlt hv (by simp) hacc H'') (fun y s hy => ?_) fun _ _ e => e
    obtain ⟨h3, tk3, rfl, hF, H4⟩ := hy
    have hpl : h3.PlainList D acc.toArray := H4.at (j := N.length + 2) (d := plainD D acc) last_get
    refine wpAny_list_append_plain hpl (fun h4 hp4 hs4 => ?_) (by simp [sizeLine]; (first | lia | omega))
    have H5 := H4.mod (j := N.length + 2) (d' := plainD D (acc ++ [y])) last_get rfl (sameBut_e hs4) (by simpa [plainD] using hp4)
    rw [last_set] at H5
    exact Nx.mk (m := n - (i + 1)) (by (first | lia | omega)) (I_mk hI ⟨i + 1, _, acc ++ [y], rfl, by (first | lia | omega), by simp [hacc], by rw [range_succ_map]; exact Paired.app hp (.cons hF .nil), H5⟩)
  · have hin : i = n := by (first | lia | omega)
    subst hin
    refine W.stop (j := N.length + 1) H mid_get (hS _ _ _ _ H) (fun h' tk' H' => ?_)
    rw [mid_erase] at H'
    exact fin C D lv acc h' tk' hp H'

theorem comp_filter {β : Type} {elt iter test : PySem.Expr} {x : Str} {px : Pos} {scope : Scope} {pos : Pos} {cl : List (Str × Addr)} {use : Option (Value → Sem Unit)} {Q : Value → Shared → Prop}
    (n : Nat) (F : Value → β → Prop) (f : Nat → Option β) (OO : Nat → List HD) (N : List HD) (hn : n < 8000)
    (hs : ∀ x, foldedSetIterable iter env x = pure x) (hclos : closureFor scope env = pure cl) (hcell : (scope.names.all fun x => x.2 != .cell) = true) (hkind : scope.kind = .function)
    (hnames : (scope.names.all fun x => decide (x.2 = .local → scope.names.lookup x.1 = some .local)) = true) (hx : scope.names.lookup x = some .local)
    (hq : wpAny (model prog w) A (eval iter env) (fun xv s₁ => wpAny (model prog w) A (pyIter xv) (CF prog w A E K g gs dr os env elt test x scope cl use Q n F f OO N) E s₁) E ⟨h, gs, dr, tk, os⟩) :
    wpAny (model prog w) A (comprehension (.ListComp elt [⟨.Name x px, iter, [test], 0⟩] scope pos) scope env (firstIterPos [⟨.Name x px, iter, [test], 0⟩] pos) (newList []) false (eval iter env) use) Q E ⟨h, gs, dr, tk, os⟩ := by
  refine comp_core (K := K) hs hclos hcell hkind hnames (wpAny_mono hq (fun xv s₁ h₁ => wpAny_mono h₁ (fun itv s₂ h₂ => ?_) fun _ _ e => e) fun _ _ e => e)
  obtain ⟨it, itD, V, S, h₂, tk₂, rfl, rfl, W, H2, hS, tst, turn, fin⟩ := h₂
  refine ⟨g, h₂, tk₂, OO 0, N ++ [itD 0], rfl, H2, by intro _; rfl, fun C D h₃ tk₃ H3 => ?_⟩
  have e0 : N ++ [itD 0] ++ [plainD D []] = N ++ [itD 0, plainD D []] := by simp
  rw [e0] at H3
  obtain ⟨I, hI⟩ : ∃ I : Nat → Heap → Prop, I = (fun m h' => ∃ i lv acc, m = n - i ∧ i ≤ n ∧ acc.length ≤ i ∧ Paired F acc ((List.range i).filterMap f) ∧ Led K g h' (OO i) (nsD C lv :: (N ++ [itD i, plainD D acc]))) := ⟨_, rfl⟩
  refine ⟨fun Q E' q => W.self (j := N.length + 1) H3 mid_get q, I, n, I_mk hI ⟨0, [], [], by (first | lia | omega), by (first | lia | omega), Nat.le_refl _, .nil, H3⟩, ?_⟩
  intro E' m h tk hJ
  obtain ⟨i, lv, acc, rfl, hi, hacc, hp, H⟩ := I_out hI hJ
  clear hJ
  by_cases hlt : i < n
  · refine W.next (j := N.length + 1) H mid_get (hS _ _ _ _ H) hlt (fun v h' tk' hv H' => ?_)
    rw [mid_set] at H'
    refine wpAny_assign_Name (r_sto (L := C) (lv := lv) H' (by rfl) (by rfl) (by show (relabel scope env).kind = _; simp [relabel, hkind]) (lookup_relabel_local hx) (fun h'' tk'' H'' => ?_))
    simp only [List.set_cons_zero] at H''
    refine wpAny_tests_one' ?_
    refine wpAny_mono (tst E' C D i _ acc v h'' tk'' _ rfl hlt hv (by simp) hacc H'') (fun b s hb => ?_) fun _ _ e => e
    obtain ⟨h3, tk3, rfl, rfl, H3⟩ := hb
    cases hf : f i with
    | none =>
      rw [if_neg (by simp)]
      exact Nx.mk (m := n - (i + 1)) (by (first | lia | omega)) (I_mk hI ⟨i + 1, _, acc, rfl, by (first | lia | omega), by (first | lia | omega), by rw [range_succ_filterMap, hf]; simpa using hp, H3⟩)
    | some z =>
      rw [if_pos (by simp)]
      refine wpAny_mono (turn E' C D i _ acc v h3 tk3 z _ rfl hlt hv hf (by simp) hacc H3) (fun y s hy => ?_) fun _ _ e => e
      obtain ⟨h3, tk3, rfl, hF, H4⟩ := hy
      have hpl : h3.PlainList D acc.toArray := H4.at (j := N.length + 2) (d := plainD D acc) last_get
      refine wpAny_list_append_plain hpl (fun h4 hp4 hs4 => ?_) (by simp [sizeLine]; (first | lia | omega))
      have H5 := H4.mod (j := N.length + 2) (d' := plainD D (acc ++ [y])) last_get rfl (sameBut_e hs4) (by simpa [plainD] using hp4)
      rw [last_set] at H5
      exact Nx.mk (m := n - (i + 1)) (by (first | lia | omega)) (I_mk hI ⟨i + 1, _, acc ++ [y], rfl, by (first | lia | omega), by simp; (first | lia | omega), by rw [range_succ_filterMap, hf]; exact Paired.app hp (.cons hF .nil), H5⟩)
  · have hin : i = n := by (first | lia | omega)
    subst hin
    refine W.stop (j := N.length + 1) H mid_get (hS _ _ _ _ H) (fun h' tk' H' => ?_)
    rw [mid_erase] at H'
    exact fin C D lv acc h' tk' hp H'

theorem uend_none {M : Model} {C D : Addr} {lv : List (Str × Value)} {d : HD} {Q : Value → Shared → Prop} (H : Led K g h O (nsD C lv :: (N ++ [d]))) (q : ∀ h', Led K g h' O (N ++ [d]) → Q (.ref D) ⟨h', gs, dr, tk, os⟩) : UEnd M A E none C D Q ⟨h, gs, dr, tk, os⟩ :=
  CEnd.mk (j := 0) H rfl q
theorem uend_sto {C D L : Addr} {y : Str} {py : Pos} {lv lv0 : List (Str × Value)} {d : HD} {Q : Value → Shared → Prop} (H : Led K g h O (nsD C lv :: (nsD L lv0 :: N ++ [d]))) (hL : env.locals = L) (hk : env.scope.kind = .function) (hl : env.kindOf y = some .local)
    (q : ∀ h' tk', Led K g h' O (nsD L ((y, .ref D) :: lv0) :: N ++ [d]) → Q .none ⟨h', gs, dr, tk', os⟩) : UEnd (model prog w) A E (some (assign (.Name y py) env)) C D Q ⟨h, gs, dr, tk, os⟩ := by
  have H' := H.perm (N' := nsD L lv0 :: nsD C lv :: (N ++ [d])) (List.Perm.swap _ _ _)
  refine wpAny_assign_Name (r_sto H' (by rfl) hL hk hl (fun h' tk' H'' => ?_))
  simp only [List.set_cons_zero] at H''
  exact ⟨_, H''.at (j := 1) rfl, fun h3 hs3 => q h3 _ (H''.drop (j := 1) rfl fun b o hb e => hs3.extBut b o (by simpa [nsD] using hb) e)⟩

theorem eval_LC {elt : PySem.Expr} {gens : List Comprehension} {scope : Scope} {pos : Pos} {Q : Value → Shared → Prop} {s : Shared} {g0 : Comprehension} {gr : List Comprehension} (hg : gens = g0 :: gr) (ha : g0.is_async = 0)
    (hq : wpAny (model prog w) A (comprehension (.ListComp elt gens scope pos) scope env (firstIterPos gens pos) (newList []) false (eval g0.iter env) none) Q E s) :
    wpAny (model prog w) A (eval (.ListComp elt gens scope pos) env) Q E s := by
  subst hg
  rw [eval_ListComp]
  obtain ⟨t, i, f, a⟩ := g0
  cases ha
  exact hq
theorem exec_LC {elt : PySem.Expr} {gens : List Comprehension} {scope : Scope} {pos spos py : Pos} {y : Str} {Q : Flow → Shared → Prop} {s : Shared} {g0 : Comprehension} {gr : List Comprehension} (hg : gens = g0 :: gr) (ha : g0.is_async = 0)
    (hsw : swapsWith (.ListComp elt gens scope pos) (some (.Name y py)) spos.line env = pure true)
    (hq : wpAny (model prog w) A (comprehension (.ListComp elt gens scope pos) scope env (firstIterPos gens pos) (newList []) false (eval g0.iter env) (some (assign (.Name y py) env))) (fun _ s' => Q .next s') E s) :
    wpAny (model prog w) A (exec (.Assign [.Name y py] (.ListComp elt gens scope pos) spos) env) Q E s := by
  subst hg
  obtain ⟨t, i, f, a⟩ := g0
  cases ha
  rw [exec_Assign_Name_used _ _ _ _ hsw]
  refine wpAny_bind (wpAny_standAt (wpAny_bind ?_))
  show wpAny _ A (do let _ ← comprehension (.ListComp elt (⟨t, i, f, 0⟩ :: gr) scope pos) scope env _ (newList []) false (eval i env) (some (assign (.Name y py) env))) _ _ s
  refine wpAny_bind (wpAny_mono hq (fun _ s' hq => wpAny_pure (wpAny_pure hq)) fun _ _ e => e)
end
end Mine
namespace Mine
section
variable {prog : Program} {w : World} {A : Around} {E : Value → Shared → Prop} {K : Frag} {g h : Heap} {O N : List HD} {gs : Array GenState} {dr : Drawn} {tk : Nat} {os : OsState} {env : Env}
theorem r_itR {r : Addr} {a b c : Int} {n : Nat} {Q : Value → Shared → Prop} (H : Led K g h O (N ++ [rangeD r a b c])) (hs : Builtin.Range.small a b c = true) (hn : Builtin.Range.rangeSize a b c = n)
    (q : ∀ i h' tk', Led K g h' O (N ++ [riD i (a + ((0 : Nat) : Int) * c) ((n : Int) - ((0 : Nat) : Int)) c]) → Q (.ref i) ⟨h', gs, dr, tk', os⟩) : wpAny (model prog w) A (pyIter (.ref r)) Q E ⟨h, gs, dr, tk, os⟩ := by
  refine r_iterR (j := N.length) H (by simp) hs (fun i h' tk' H' => q i h' tk' ?_)
  rw [hn] at H'
  rw [show a + ((0 : Nat) : Int) * c = a by simp, show (n : Int) - ((0 : Nat) : Int) = n by simp]
  exact H'.sub (by simp)
theorem r_sum {l : Addr} {vs : List Value} {xs : List Int} {Q : Value → Shared → Prop} (H : Led K g h O N) (hA : A.handled = none) (hl : h.IsList l vs.toArray) (hp : Paired IV vs xs)
    (q : ∀ t h' tk', Led K g h' O N → Q (.int xs.sum t) ⟨h', gs, dr, tk', os⟩) : wpAny (model prog w) A (call (.builtin "sum") [.ref l]) Q E ⟨h, gs, dr, tk, os⟩ := by
  have key : ∃ ys : List (Int × Tok), vs.toArray = intItems ys.toArray ∧ ys.map (·.1) = xs := by
    clear hl q
    induction hp with
    | nil => exact ⟨[], by simp [intItems], rfl⟩
    | cons hv t ih =>
      obtain ⟨ys, e1, e2⟩ := ih
      obtain ⟨u, rfl⟩ := hv
      refine ⟨(_, u) :: ys, ?_, by rw [List.map_cons, e2]⟩
      have e3 := congrArg Array.toList e1
      simp [intItems] at e3 ⊢
      exact e3
  obtain ⟨ys, e1, e2⟩ := key
  rw [e1] at hl
  refine sum_intListG hA hl fun h' tk' t' hk => ?_
  have e3 : preSum (numAt ys.toArray) ys.toArray.size = xs.sum := by
    rw [preSum_eq, List.take_of_length_le (by simp), ← e2]
  rw [e3]
  exact q _ _ _ (H.ext hk)
theorem r_min {a b : Int} {t u : Tok} {Q : Value → Shared → Prop} (H : Led K g h O N) (hA : A.handled = none)
    (q : ∀ t h' tk', Led K g h' O N → Q (.int (min a b) t) ⟨h', gs, dr, tk', os⟩) : wpAny (model prog w) A (call (.builtin "min") [.int a t, .int b u]) Q E ⟨h, gs, dr, tk, os⟩ := by
  refine min_two_ints hA fun h' tk' hk => ?_
  by_cases hb : b < a
  · rw [if_pos hb, show b = min a b by (first | lia | omega)]; exact q _ _ _ (H.ext hk)
  · rw [if_neg hb]; conv => arg 1; rw [show a = min a b by (first | lia | omega)]
    exact q _ _ _ (H.ext hk)
theorem r_fdiv {a b : Int} {t u : Tok} {Q : Value → Shared → Prop} (hb : 0 < b) (hb2 : b < 1073741824) (q : ∀ t tk', Q (.int (a / b) t) ⟨h, gs, dr, tk', os⟩) : wpAny (model prog w) A (binaryOp .FloorDiv (.int a t) (.int b u)) Q E ⟨h, gs, dr, tk, os⟩ :=
  floordiv_int (by (first | lia | omega)) (by rw [Int.fdiv_eq_ediv_of_nonneg _ (by (first | lia | omega))]; exact q _ _) (.inl (PyProof.noPylong_small (by (first | lia | omega))))
end
end Mine
namespace Mine
section
variable {prog : Program} {w : World} {A : Around} {E : Value → Shared → Prop} {K : Frag} {g h : Heap} {O N : List HD} {gs : Array GenState} {dr : Drawn} {tk : Nat} {os : OsState} {env : Env}
theorem r_cellM {x : Str} {pos : Pos} {c : Addr} {v : Value} {Q : Value → Shared → Prop} (hl : env.kindOf x = some .cell) (hk : env.scope.kind = .function) (hc : env.cells.lookup x = some c) (H : Led K g h O N) (hv : cellD c (some v) ∈ N)
    (hd : (x == ("__debug__" : Str)) = false) (q : Q v ⟨h, gs, dr, tk, os⟩) : wpAny (model prog w) A (eval (.Name x pos) env) Q E ⟨h, gs, dr, tk, os⟩ :=
  wpAny_Name (wpAny_loadName_cell hk hl hc (H.all _ (List.mem_append_right _ hv)) q) hd
theorem Led.has {d : HD} (H : Led K g h O N) (hd : d ∈ N) : d.P h := H.all _ (List.mem_append_right _ hd)
end
end Mine
end

section
open PySem PySem.W PySem.Calls PyProof.Rows
namespace Mine
def ovIdx (p : List Str) (t : List Nat) (i : Nat) : Nat → Nat → Nat
  | 0, _ => 0
  | f + 1, k => if p[i]? = p[k]? then k + 1 else if k = 0 then 0 else ovIdx p t i f (t.getD (k - 1) 0)
def ovRun (p : List Str) : Nat → List Nat
  | 0 => List.replicate p.length 0
  | k + 1 => (ovRun p k).set (k + 1) (ovIdx p (ovRun p k) (k + 1) (k + 2) ((ovRun p k).getD k 0))
def ovT (p : List Str) : List Nat := ovRun p (p.length - 1)
theorem ovRun_len (p : List Str) (k : Nat) : (ovRun p k).length = p.length := by
  induction k with
  | zero => simp [ovRun]
  | succ k ih => simp [ovRun, ih]
theorem ovIdx_le (p : List Str) (t : List Nat) (i : Nat) (ht : ∀ m, t.getD m 0 ≤ m) : ∀ f k, ovIdx p t i f k ≤ k + 1
  | 0, k => Nat.zero_le _
  | f + 1, k => by
    unfold ovIdx
    split
    · exact Nat.le_refl _
    · split
      · exact Nat.zero_le _
      · have := ovIdx_le p t i ht f (t.getD (k - 1) 0)
        have := ht (k - 1)
        (first | lia | omega)
theorem ovRun_le (p : List Str) (k : Nat) : ∀ m, (ovRun p k).getD m 0 ≤ m := by
  induction k with
  | zero =>
    intro m
    simp only [ovRun, List.getD_eq_getElem?_getD, List.getElem?_replicate]
    split <;> simp
  | succ k ih =>
    intro m
    simp only [ovRun, List.getD_eq_getElem?_getD, List.getElem?_set]
    split
    · rename_i e
      split
      · have h1 := ovIdx_le p (ovRun p k) (k + 1) ih (k + 2) ((ovRun p k).getD k 0)
        have h2 := ih k
        simp only [List.getD_eq_getElem?_getD, Option.getD_some] at *
        (first | lia | omega)
      · simp
    · simpa [List.getD_eq_getElem?_getD] using ih m
def zs (t : List Nat) : List Int := t.map fun (n : Nat) => (n : Int)



end Mine
end
open PySem PySem.W PySem.Calls PyProof.Rows Mine
local macro_rules | `(tactic| walk_at "eval Name") => `(tactic| (refine r_blt (by rfl) (by rfl) (by assumption) (by rfl) (by rfl) (by rfl) (by boot_by_name) (by decide) (by decide) ?_))
local macro_rules | `(tactic| walk_at "eval Name") => `(tactic| (refine r_glob (by rfl) (by rfl) (by assumption) (by rfl) (by rfl) (by decide) ?_))
local macro_rules | `(tactic| walk_at "eval Name") => `(tactic| (refine r_loc (by rfl) (by rfl) (by assumption) (by rfl) (by rfl) (by first | rfl | assumption) (by decide) ?_))
local macro_rules | `(tactic| walk_at "storeName") => `(tactic| (refine r_sto (by assumption) (by rfl) (by rfl) (by rfl) (by rfl) ?_; intro h' tk' H'; (try simp only [List.cons_append, List.nil_append, List.set_cons_zero, List.set_cons_succ] at H')))
local macro_rules | `(tactic| walk_at "newList") => `(tactic| (refine r_newList (by assumption) (by simp [sizeLine]) ?_; intro a' h' tk' H'; (try simp only [List.cons_append, List.nil_append, List.set_cons_zero, List.set_cons_succ] at H')))
local macro_rules | `(tactic| walk_at "eval Constant int") => `(tactic| (refine r_cint ?_; intro _ _))
local macro_rules | `(tactic| walk_at "eval Constant str") => `(tactic| (refine r_cstr ?_; intro _ _))
local macro_rules | `(tactic| walk_at "binaryOp Add int int") => `(tactic| (refine r_add ?_; intro _ _))
local macro_rules | `(tactic| walk_at "binaryOp Sub int int") => `(tactic| (refine r_sub ?_; intro _ _))
section
open PySem PySem.W PySem.Calls PyProof.Rows
namespace Mine
theorem zs_get {t : List Nat} {k : Nat} (hk : k < t.length) : (zs t)[k]? = some ((t.getD k 0 : Nat) : Int) := by
  simp [zs, List.getD_eq_getElem?_getD, List.getElem?_eq_getElem hk]
theorem zs_set (t : List Nat) (k r : Nat) : zs (t.set k r) = (zs t).set k (r : Int) := by
  simp [zs, List.map_set]
set_option maxRecDepth 100000 in
set_option maxHeartbeats 8000000 in
theorem ov_call {w : World} {A : Around} {h : Heap} {gs : Array GenState} {dr : Drawn} {tk : Nat} {os : OsState} {R : Result → Shared → Prop} {l : Addr} {vs : List Value} {xs : List Str}
    (X : Gd (hd03.heap_39 w.params) h) (hd : A.depth < 900) (hu : A.units < 1000) (hA : A.handled = none)
    (hl : h.IsList l vs.toArray) (hp : Paired SV vs xs) (hsz : xs.length < 1000)
    (k : ∀ h' tk' a, Led (hd03.heap_39 w.params) h h' [] [intsD a (zs (ovT xs))] → R (.ok (.ret (.ref a))) ⟨h', gs, dr, tk', os⟩) :
    codeAny (model PySem.Challenge.rw_qu0003_03.row.prog w) A (.call (.ref 21) ⟨[.ref l], []⟩) R ⟨h, gs, dr, tk, os⟩ := by
  have hlen := hp.length
  refine r_enter (lv := [(("prefix" : Str), .ref l)]) (Led.start X) (Nat.lt_of_lt_of_le hd (by decide)) rfl rfl rfl rfl rfl rfl rfl rfl rfl rfl ?_
  intro E' L h₁ tk₁ H
  repeat' walk1
  refine r_len (Led.blist (by assumption) hl) (by (first | lia | omega)) ?_; intro _ _
  repeat' walk1
  refine r_mul (by assumption) (Led.at (j := 1) (by assumption) rfl) (by (first | lia | omega)) (by (first | lia | omega)) (by simp; (first | lia | omega)) ?_; intro a1 h1 tk1 H1
  have H1 := (H1.sub (N' := [_, plainD a1 _]) (by exact .cons_cons _ (.cons _ (.cons_cons _ .slnil)))).conv (j := 1) (d' := intsD a1 (zs (ovRun xs 0))) rfl rfl (fun p => ⟨_, p.isList, by
    have e : ∀ v : Value, (List.replicate ((vs.length : Nat) : Int).toNat [v]).flatten = List.replicate vs.length v := fun v => by simp
    rw [e, hlen]; simp only [zs, ovRun, List.map_replicate]; exact Paired.rep ⟨_, rfl⟩ _⟩)
  simp only [List.set_cons_zero, List.set_cons_succ] at H1
  repeat' walk1
  refine r_for (by intro _; rfl) ?_
  repeat' walk1
  refine r_len (Led.blist (by assumption) hl) (by (first | lia | omega)) ?_; intro _ _
  repeat' walk1
  refine r_range2 (by assumption) ?_; intro r2 h2 tk2 H2
  repeat' walk1
  refine r_iterR (j := 2) H2 (by rfl) (small_one (by (first | lia | omega)) (by (first | lia | omega)) (by (first | lia | omega)) (by (first | lia | omega))) ?_; intro it h3 tk3 H3
  have H3 := H3.sub (N' := [_, _, riD it _ _ _]) (by exact .cons_cons _ (.cons_cons _ (.cons _ (.cons_cons _ .slnil))))
  obtain ⟨I1, hI1⟩ : ∃ I : Nat → Heap → Prop, I = (fun (n : Nat) (h' : Heap) => ∃ (j : Nat) (lv : List (Str × Value)), n = xs.length - 1 - j + 1 ∧ j ≤ xs.length - 1 ∧ Led (hd03.heap_39 w.params) h h' [] [nsD L lv, intsD a1 (zs (ovRun xs j)), riD it ((j : Int) + 1) ((xs.length - 1 - j : Nat) : Int) 1] ∧ lv.lookup ("prefix" : Str) = some (.ref l) ∧ lv.lookup ("table" : Str) = some (.ref a1)) := ⟨_, rfl⟩
  refine ⟨I1, xs.length - 1 + 1, _, _, rfl, ?_, by intro _; rfl, ?_⟩
  · have e : Builtin.Range.rangeSize 1 (vs.length : Int) 1 = ((xs.length - 1 - 0 : Nat) : Int) := by rw [rangeSize_one]; split <;> (first | lia | omega)
    rw [e] at H3
    exact I_mk hI1 ⟨0, _, by (first | lia | omega), by (first | lia | omega), H3, rfl, rfl⟩
  intro E2 n h4 tk4 hJ1
  refine ex2_5 (I_out hI1 hJ1) ?_
  intro j lv hn hj H4 e1 e2
  clear hJ1
  by_cases hlt : j < xs.length - 1
  · refine r_nextR (j := 2) H4 (by rfl) (by (first | lia | omega)) ?_; intro t5 h5 tk5 H5
    simp only [List.set_cons_zero, List.set_cons_succ] at H5
    have hrl : (ovRun xs j).length = xs.length := ovRun_len xs j
    have hle := ovRun_le xs j
    have hjk := hle j
    repeat' walk1
    refine r_itemI (j := 1) (by assumption) (by rfl) (by (first | lia | omega)) (by (first | lia | omega)) (by rw [show ((j : Int) + 1 - 1).toNat = j by (first | lia | omega)]; exact zs_get (by (first | lia | omega))) ?_ (by with_unfolding_all rfl); intro _
    repeat' walk1
    generalize hr : ovIdx xs (ovRun xs j) (j + 1) (j + 2) ((ovRun xs j).getD j 0) = r
    obtain ⟨I2, hI2⟩ : ∃ I : Nat → Heap → Prop, I = (fun (n : Nat) (h' : Heap) => ∃ (f : Nat) (lv2 : List (Str × Value)) (ti tt : Tok), Led (hd03.heap_39 w.params) h h' [] [nsD L lv2, intsD a1 (zs (ovRun xs j)), riD it (j + 1 + 1) ((xs.length - 1 - j : Nat) - 1) 1] ∧ lv2.lookup ("prefix" : Str) = some (.ref l) ∧ lv2.lookup ("table" : Str) = some (.ref a1)
      ∧ lv2.lookup ("i" : Str) = some (.int (j + 1) ti) ∧ lv2.lookup ("idx" : Str) = some (.int n tt) ∧ n ≤ j ∧ n < f ∧ ovIdx xs (ovRun xs j) (j + 1) f n = r) := ⟨_, rfl⟩
    refine r_while I2 ((ovRun xs j).getD j 0) (I_mk hI2 ⟨j + 2, _, _, _, by assumption, by exact e1, by exact e2, by rfl, by rfl, by exact hjk, by (first | lia | omega), by exact hr⟩) ?_
    · intro E6 n6 h6 tk6 hJ2
      refine ex4_8 (I_out hI2 hJ2) ?_
      intro f6 lv6 ti6 tt6 H6 p1 p2 p3 p4 p5 p6 p7
      clear hJ2
      obtain ⟨x1, hx1⟩ : ∃ x, xs[j + 1]? = some x := ⟨xs[j + 1], List.getElem?_eq_getElem (by (first | lia | omega))⟩
      obtain ⟨x2, hx2⟩ : ∃ x, xs[n6]? = some x := ⟨xs[n6], List.getElem?_eq_getElem (by (first | lia | omega))⟩
      obtain ⟨f7, rfl⟩ : ∃ f7, f6 = f7 + 1 := ⟨f6 - 1, by (first | lia | omega)⟩
      repeat' walk1
      refine r_itemS (Led.blist H6 hl) hp (by (first | lia | omega)) (by (first | lia | omega)) (by rw [show ((j : Int) + 1).toNat = j + 1 by (first | lia | omega)]; exact hx1) ?_ (by with_unfolding_all rfl); intro _
      repeat' walk1
      refine r_itemS (Led.blist H6 hl) hp (by (first | lia | omega)) (by (first | lia | omega)) (by rw [show ((n6 : Nat) : Int).toNat = n6 by (first | lia | omega)]; exact hx2) ?_ (by with_unfolding_all rfl); intro _
      repeat' walk1
      · rename_i hne _ _ hz _ _
        have hne' : x1 ≠ x2 := by simpa using hne
        have hr0 : r = 0 := by rw [← p7]; unfold ovIdx; rw [hx1, hx2, if_neg (by simpa using hne'), if_pos (by (first | lia | omega))]
        refine r_setI (j := 1) H6 (by rfl) (by (first | lia | omega)) (by (first | lia | omega)) (by simp [zs, hrl]; (first | lia | omega)) ?_; intro h8 tk8 H8
        repeat' walk1
        refine Nx.mk (m := xs.length - 1 - (j + 1) + 1) (by (first | lia | omega)) (I_mk hI1 ⟨j + 1, lv6, rfl, by (first | lia | omega), ?_, p1, p2⟩)
        · have e8 : zs (ovRun xs (j + 1)) = (zs (ovRun xs j)).set ((j : Int) + 1).toNat 0 := by
            rw [ovRun, hr, hr0, zs_set, show ((j : Int) + 1).toNat = j + 1 by (first | lia | omega)]; rfl
          rw [e8, show ((j + 1 : Nat) : Int) + 1 = (j : Int) + 1 + 1 by (first | lia | omega), show ((xs.length - 1 - (j + 1) : Nat) : Int) = ((xs.length - 1 - j : Nat) : Int) - 1 by (first | lia | omega)]
          exact H8
      · rename_i hne _ _ hz _ _ _ _
        have hne' : x1 ≠ x2 := by simpa using hne
        have hn0 : n6 ≠ 0 := by simpa using hz
        refine r_itemI (j := 1) H6 (by rfl) (by (first | lia | omega)) (by (first | lia | omega)) (by rw [show ((n6 : Int) - 1).toNat = n6 - 1 by (first | lia | omega)]; exact zs_get (by (first | lia | omega))) ?_ (by with_unfolding_all rfl); intro _
        repeat' walk1
        have hb := hle (n6 - 1)
        refine Nx.mk (m := (ovRun xs j).getD (n6 - 1) 0) (by (first | lia | omega)) (I_mk hI2 ⟨f7, _, _, _, by assumption, by exact p1, by exact p2, by exact p3, by rfl, ?_, ?_, ?_⟩)
        · (first | lia | omega)
        · (first | lia | omega)
        · rw [← p7]; conv => rhs; unfold ovIdx
          rw [hx1, hx2, if_neg (by simpa using hne'), if_neg hn0]
      · rename_i hne _ _ _ _
        have hne' : x1 = x2 := by simpa using hne
        have hr0 : r = n6 + 1 := by rw [← p7]; unfold ovIdx; rw [hx1, hx2, if_pos (by rw [hne'])]
        refine r_setI (j := 1) H6 (by rfl) (by (first | lia | omega)) (by (first | lia | omega)) (by simp [zs, hrl]; (first | lia | omega)) ?_; intro h8 tk8 H8
        repeat' walk1
        refine Nx.mk (m := xs.length - 1 - (j + 1) + 1) (by (first | lia | omega)) (I_mk hI1 ⟨j + 1, lv6, rfl, by (first | lia | omega), ?_, p1, p2⟩)
        · have e8 : zs (ovRun xs (j + 1)) = (zs (ovRun xs j)).set ((j : Int) + 1).toNat ((n6 : Int) + 1) := by
            rw [ovRun, hr, hr0, zs_set, show ((j : Int) + 1).toNat = j + 1 by (first | lia | omega)]; rfl
          rw [e8, show ((j + 1 : Nat) : Int) + 1 = (j : Int) + 1 + 1 by (first | lia | omega), show ((xs.length - 1 - (j + 1) : Nat) : Int) = ((xs.length - 1 - j : Nat) : Int) - 1 by (first | lia | omega)]
          exact H8
  · refine r_nextR_end (j := 2) H4 hA (by rfl) (by (first | lia | omega)) ?_; intro h5 tk5 H5
    simp only [List.eraseIdx] at H5
    repeat' walk1
    have ej : j = xs.length - 1 := by (first | lia | omega)
    subst ej
    exact k _ _ _ (H5.sub (.cons _ (.cons_cons _ .slnil)))
end Mine
end

section
open PySem PySem.W PySem.Calls PyProof.Rows
namespace Mine
def Bd (p : List Str) (j b : Nat) : Prop := b < j ∧ ∀ x, x < b → p[x]? = p[j - b + x]?
def LB (p : List Str) (j b : Nat) : Prop := Bd p j b ∧ ∀ b', Bd p j b' → b' ≤ b
theorem bd_trans {p : List Str} {j k b : Nat} (h1 : Bd p j k) (h2 : Bd p k b) : Bd p j b := by
  obtain ⟨a1, a2⟩ := h1
  obtain ⟨b1, b2⟩ := h2
  refine ⟨by (first | lia | omega), fun x hx => ?_⟩
  rw [b2 x hx, a2 _ (by (first | lia | omega)), show j - k + (k - b + x) = j - b + x by (first | lia | omega)]
theorem bd_sub {p : List Str} {j k b : Nat} (h1 : Bd p j k) (h2 : Bd p j b) (hb : b < k) : Bd p k b := by
  obtain ⟨a1, a2⟩ := h1
  obtain ⟨b1, b2⟩ := h2
  refine ⟨hb, fun x hx => ?_⟩
  rw [b2 x hx, a2 (k - b + x) (by (first | lia | omega)), show j - k + (k - b + x) = j - b + x by (first | lia | omega)]
theorem bd_succ {p : List Str} {i b : Nat} : Bd p (i + 1) (b + 1) ↔ Bd p i b ∧ p[b]? = p[i]? := by
  constructor
  · rintro ⟨h1, h2⟩
    refine ⟨⟨by (first | lia | omega), fun x hx => ?_⟩, ?_⟩
    · rw [h2 x (by (first | lia | omega)), show i + 1 - (b + 1) + x = i - b + x by (first | lia | omega)]
    · rw [h2 b (by (first | lia | omega)), show i + 1 - (b + 1) + b = i by (first | lia | omega)]
  · rintro ⟨⟨h1, h2⟩, h3⟩
    refine ⟨by (first | lia | omega), fun x hx => ?_⟩
    rw [show i + 1 - (b + 1) + x = i - b + x by (first | lia | omega)]
    by_cases hxb : x = b
    · subst hxb; rw [h3, show i - x + x = i by (first | lia | omega)]
    · exact h2 x (by (first | lia | omega))
theorem bd_zero {p : List Str} {j : Nat} (hj : 0 < j) : Bd p j 0 := ⟨hj, fun x hx => absurd hx (Nat.not_lt_zero x)⟩
theorem ovIdx_lb {p : List Str} {t : List Nat} {i : Nat} (ht : ∀ m, m < i → LB p (m + 1) (t.getD m 0)) :
    ∀ f k, k < f → Bd p i k → (∀ b, Bd p (i + 1) (b + 1) → b ≤ k) → LB p (i + 1) (ovIdx p t i f k)
  | 0, k, hk, _, _ => absurd hk (Nat.not_lt_zero k)
  | f + 1, k, hk, hb, hm => by
    rw [ovIdx]
    by_cases h : p[i]? = p[k]?
    · rw [if_pos h]
      refine ⟨bd_succ.mpr ⟨hb, h.symm⟩, fun b' hb' => ?_⟩
      cases b' with
      | zero => exact Nat.zero_le _
      | succ b => exact Nat.succ_le_succ (hm b hb')
    · rw [if_neg h]
      by_cases h0 : k = 0
      · rw [if_pos h0]
        refine ⟨bd_zero (Nat.succ_pos _), fun b' hb' => ?_⟩
        cases b' with
        | zero => exact Nat.le_refl _
        | succ b =>
          have := hm b hb'
          have e : b = k := by (first | lia | omega)
          subst e
          exact absurd (bd_succ.mp hb').2.symm h
      · rw [if_neg h0]
        have hki := hb.1
        have hlb := ht (k - 1) (by (first | lia | omega))
        rw [show k - 1 + 1 = k by (first | lia | omega)] at hlb
        refine ovIdx_lb ht f _ (by have := hlb.1.1; (first | lia | omega)) (bd_trans hb hlb.1) fun b hb' => ?_
        have h1 := hm b hb'
        have h2 := bd_succ.mp hb'
        have h3 : b ≠ k := fun e => h (by rw [← e]; exact h2.2.symm)
        exact hlb.2 b (bd_sub hb h2.1 (by (first | lia | omega)))
theorem ovRun_lb (p : List Str) : ∀ k, k < p.length → ∀ m, m ≤ k → LB p (m + 1) ((ovRun p k).getD m 0)
  | 0, h, m, hm => by
    have e : m = 0 := by (first | lia | omega)
    subst e
    have : (ovRun p 0).getD 0 0 = 0 := by
      rw [ovRun, List.getD_eq_getElem?_getD, List.getElem?_replicate]; split <;> rfl
    rw [this]
    exact ⟨bd_zero (by (first | lia | omega)), fun b' hb' => by have := hb'.1; (first | lia | omega)⟩
  | k + 1, h, m, hm => by
    have ih := ovRun_lb p k (by (first | lia | omega))
    rw [ovRun, List.getD_eq_getElem?_getD, List.getElem?_set]
    by_cases hmk : k + 1 = m
    · subst hmk
      rw [if_pos rfl, if_pos (by rw [ovRun_len]; (first | lia | omega))]
      have hk := ih k (Nat.le_refl _)
      exact ovIdx_lb (fun m hm => ih m (by (first | lia | omega))) (k + 2) _ (by have := hk.1.1; (first | lia | omega)) hk.1 fun b hb => hk.2 b (bd_succ.mp hb).1
    · rw [if_neg hmk, ← List.getD_eq_getElem?_getD]
      exact ih m (by (first | lia | omega))
theorem ovT_lb (p : List Str) {m : Nat} (h : m < p.length) : LB p (m + 1) ((ovT p).getD m 0) := ovRun_lb p (p.length - 1) (by (first | lia | omega)) m (by (first | lia | omega))
theorem lb_eq {p : List Str} {j a b : Nat} (h1 : LB p j a) (h2 : LB p j b) : a = b := Nat.le_antisymm (h2.2 a h1.1) (h1.2 b h2.1)
theorem ovT_len (p : List Str) : (ovT p).length = p.length := by unfold ovT; rw [ovRun_len]
end Mine
end

section
open PySem PySem.W PySem.Calls PyProof.Rows Builtin Builtin.ObjectAttr
namespace Mine
theorem fn_ga : typeLookup (.type "function") "__getattribute__" = pure (some (.builtin "object.__getattribute__")) := by rw [typeLookup_type, builtinLookup_eq_fast]; kernel_rfl
theorem fn_gattr : typeLookup (.type "function") "__getattr__" = pure none := by rw [typeLookup_type, builtinLookup_eq_fast]; kernel_rfl
theorem fn_read : typeLookup (.type "function") "read" = pure none := by rw [typeLookup_type, builtinLookup_eq_fast]; kernel_rfl

theorem slot_fn_ga : Slot "function" "__getattribute__" "object.__getattribute__" :=
  .of (owner := "object") (n := "__getattribute__") (by rw [typeLookup_type, builtinLookup_eq_fast]; kernel_rfl) (by decide +kernel) (by decide +kernel) (by decide +kernel)
    (by first | exact .inl (by decide +kernel) | exact .inr (by decide +kernel)) (by rw [isSubtype_type]; kernel_rfl)

section
variable {prog : Program} {w : World} {A : Around} {E : Value → Shared → Prop} {K : Frag} {g h : Heap} {O N : List HD} {gs : Array GenState} {dr : Drawn} {tk : Nat} {os : OsState}

theorem r_fattr {f fd : Addr} {of : Obj} {fda : FuncData} {es : List DictEntry} {n : Nat} {name : Str} {v : Value} {pl : Sem Bool} {Q : Value × List Value → Shared → Prop}
    (hf : h.get? f = some of) (hc : of.cls = .type "function") (hd : of.dict = some fd) (hdat : of.data = .func fda) (hfd : h.get? fd = some (dictOf es n)) (hr : typeLookup (.type "function") name = pure none)
    (hv : getL name es = some (some v)) (hh : handedIn v = true) (q : ∀ tk', Q (v, []) ⟨h, gs, dr, tk', os⟩) :
    wpAny (model prog w) A (getMethod (.ref f) name pl) Q E ⟨h, gs, dr, tk, os⟩ := by
  have hcan := PySem.F.canon_object_ga
  have T : ∀ {h' : Heap}, h'.get? f = some of → Looks (model prog w) h' (typeOf (.ref f)) (.type "function") := fun e => hc ▸ (Looks.ld e).andThen .now
  have T0 := T hf
  have own : Looks (model prog w) h (ownDict f) (some fd) := by
    refine (Looks.ld hf).andThen ?_
    rw [hdat]
    refine (Looks.ld hf).andThen ?_
    rw [hc, hd]
    exact .now
  have ind : Looks (model prog w) h (inOwnDict name (.ref f)) (some v) := by
    refine own.andThen ?_
    refine (Looks.ld hfd).andThen (Looks.of_pure (nsLook_of ?_))
    rw [lookIn_dict, hv]
  have fnd : Looks (model prog w) h (find (.ref f) (.type "function") name) (.value v) :=
    (Looks.of_pure hr).andThen (Looks.now.andThen (Looks.now.andThen (ind.andThen (Looks.tag .now))))
  unfold getMethod specialOf
  refine wpAny_bind (wpAny_bind (T0.here ((Looks.of_pure fn_ga).here ?_)))
  dsimp only
  rw [hcan, if_neg (by decide)]
  refine wpAny_bind (wpAny_bind (T0.here ((Looks.of_pure fn_gattr).here ?_)))
  refine wpAny_bind (wpAny_bind (T0.here ((Looks.of_pure hr).here ?_)))
  refine wpAny_bind ?_
  unfold getAttr getAttrBy
  refine wpAny_bind (wpAny_mkText (wpAny_holding (wpAny_bind (T0.at (wpAny_bind ((Looks.of_pure fn_ga).at ?_))))))
  show wpAny _ _ (getAttrByItsOwn (.ref f) (.str name tk) (.type "function") (.builtin "object.__getattribute__") true false) _ _ _
  unfold getAttrByItsOwn hookBefore callGetattribute boundAndCalled
  refine wpAny_bind (wpAny_of_eq (show (if onTheHeap (.type "function") then typeLookup (.type "function") "__getattr__" else pure none) = pure none from rfl) ?_)
  refine wpAny_bind (wpAny_attempt (wpAny_holding ?_))
  show wpAny _ _ (bindSpecial (.builtin "object.__getattribute__") (.ref f) >>= _) _ _ _
  refine wpAny_bind (wpAny_of_eq (slot_fn_ga.bind _) ?_)
  refine wpAny_mono (Q := fun v' s' => v' = v ∧ s' = ⟨h, gs, dr, tk + 1, os⟩) (E := fun _ _ => False)
    (wpAny_call_entry slot_fn_ga ⟨_, hf, hc⟩ PySem.F.entry_object_getattribute ?_ (PySem.F.args_object_getattribute_2 _ _)) (fun v' s' hv' => ?_) fun _ _ z => z.elim
  · unfold Builtin.«object.__getattribute__»
    refine wpAny_bind (wpAny_pure ?_)
    refine wpAny_bind (wpAny_pure (wpAny_bind (T0.at (wpAny_bind (fnd.at ?_)))))
    exact wpAny_pure ⟨_, rfl, rfl, rfl⟩
  · obtain ⟨rfl, rfl⟩ := hv'
    show wpAny _ _ (handedOut v') _ _ _
    rw [handedOut_of hh]
    exact wpAny_pure (wpAny_pure (q _))
end
end Mine
namespace Mine
section
variable {prog : Program} {w : World} {A : Around} {E : Value → Shared → Prop} {K : Frag} {g h : Heap} {O N : List HD} {gs : Array GenState} {dr : Drawn} {tk : Nat} {os : OsState} {env : Env}

theorem plain_upd {h : Heap} {l : Addr} {xs : Array Value} (hl : h.PlainList l xs) (f : Array Value → Array Value) : (h.update l (Obj.mapSeq f)).PlainList l (f xs) := by
  obtain ⟨n, hl⟩ := hl
  exact ⟨_, IsL.update hl f⟩

theorem w_pop {l : Addr} {vs : List Value} {v : Value} {pos : Pos} {Q : Value → Shared → Prop} (hl : h.PlainList l (vs ++ [v]).toArray) (hsz : vs.length < 10000)
    (q : ∀ h', h'.PlainList l vs.toArray → Heap.SameBut l h h' → Q v ⟨h', gs, dr, tk, os⟩) : wpAny (model prog w) A (callWith pos (.builtin "list.pop") [.ref l] [] []) Q E ⟨h, gs, dr, tk, os⟩ := by
  have u := plain_upd hl (fun xs => xs.eraseIdxIfInBounds ((vs ++ [v]).toArray.size - 1))
  obtain ⟨n, hl⟩ := hl
  refine PySem.P.pop_list hl (y := v) (by simp) (q _ ?_ (Heap.SameBut.update ..)) (by simp [sizeLine]; (first | lia | omega))
  have e : (vs ++ [v]).toArray.eraseIdxIfInBounds ((vs ++ [v]).toArray.size - 1) = vs.toArray := by simp [Array.eraseIdxIfInBounds, List.eraseIdx_append_of_length_le]
  rw [e] at u; exact u

theorem w_pop0 {l : Addr} {vs : List Value} {v : Value} {pos : Pos} {x : Sem Value} {Q : Value → Shared → Prop}
    (hq : wpAny (model prog w) A x (fun z s₁ => ∃ u h₁ tk₁, z = .int 0 u ∧ s₁ = ⟨h₁, gs, dr, tk₁, os⟩ ∧ h₁.PlainList l (v :: vs).toArray ∧ vs.length < 10000 ∧ ∀ h', h'.PlainList l vs.toArray → Heap.SameBut l h₁ h' → Q v ⟨h', gs, dr, tk₁, os⟩) E ⟨h, gs, dr, tk, os⟩) :
    wpAny (model prog w) A (callWith pos (.builtin "list.pop") [.ref l] [(false, x)] []) Q E ⟨h, gs, dr, tk, os⟩ := by
  refine PySem.P.pop_at_list (wpAny_mono hq (fun z s₁ h₁ => ?_) fun _ _ e => e)
  obtain ⟨u, h₁, tk₁, rfl, rfl, hl, hsz, q⟩ := h₁
  have up := plain_upd hl (fun xs => xs.eraseIdxIfInBounds 0)
  have e : (v :: vs).toArray.eraseIdxIfInBounds 0 = vs.toArray := by simp [Array.eraseIdxIfInBounds]
  rw [e] at up
  obtain ⟨n, hl⟩ := hl
  exact ⟨_, n, 0, u, 0, v, by simp [sizeLine]; (first | lia | omega), rfl, hl, by decide, by simp [seqIndex?], by simp, q _ up (Heap.SameBut.update ..)⟩

theorem w_app {l : Addr} {vs : List Value} {v : Value} {Q : Value → Shared → Prop} (hl : h.PlainList l vs.toArray) (hsz : vs.length < 10000)
    (q : ∀ h', h'.PlainList l (vs ++ [v]).toArray → Heap.SameBut l h h' → Q .none ⟨h', gs, dr, tk, os⟩) : wpAny (model prog w) A (call (.builtin "list.append") [.ref l, v]) Q E ⟨h, gs, dr, tk, os⟩ :=
  wpAny_list_append_plain hl (fun h' hp hs => q h' (by simpa using hp) hs) (by simp [sizeLine]; (first | lia | omega))

theorem r_enterE {R : Result → Shared → Prop} {f : Addr} {of : Obj} {fd : FuncData} {body : PySem.Expr} {args : List Value} {binds lv : List (Str × Value)}
    (H : Led K h h O []) (hroom : A.depth < recursionLimit) (ho : h.get? f = some of) (hdat : of.data = .func fd) (hcd : h.CodeRec fd.code fd.qualname) (hbody : fd.body = .expr body)
    (hbind : bindArgs fd ⟨args, []⟩ = pure binds) (hcell : (fd.scope.names.all fun x => x.2 != .cell) = true) (hloc : (binds.all fun x => decide (fd.scope.names.lookup x.1 = some .local)) = true)
    (hlv : binds.reverse = lv) (hco : fd.scope.isCoroutine = false) (hgen : fd.scope.isGenerator = false) (hk : fd.scope.kind = .function)
    (q : ∀ (E' : Value → Shared → Prop) L h₁ tk₁, Led K h h₁ O [nsD L lv] → wpAny (model prog w) (A.deeper (callEnv fd L f)) (eval body (callEnv fd L f)) (fun v s' => R (.ok (.ret v)) s') E' ⟨h₁, gs, dr, tk₁, os⟩) :
    codeAny (model prog w) A (.call (.ref f) ⟨args, []⟩) R ⟨h, gs, dr, tk, os⟩ := by
  refine kla_callFunE hroom ho hdat hco hgen hbody hcd ((BindsTo.of_eq hbind) _ _ _ _ ?_)
  refine wpAny_newFunctionEnv (noCells hcell) (locs hloc) (fun h₀ hns₀ hsb₀ => ⟨H.gd.nl.fresh _ hsb₀, kla_codeExpr ?_⟩) hk
  subst hlv
  exact q _ _ h₀ _ (H.new (fun b o e => hsb₀.extBut b o (Nat.ne_of_lt (Heap.lt_size e)) (Heap.get?_push_of_some _ e)) hns₀ (by intro a ha; cases List.mem_singleton.mp ha; exact none_size h) (by simp [nsD]))

theorem fn_keeps {M : Model} {f : Addr} (h : Heap) (X : ∃ of fd, h.get? f = some of ∧ of.data = .func fd) : ∃ k, (k = Keeper.frame ∨ k = Keeper.machine ∨ k = Keeper.boundFrame) ∧ Looks M h (keeperOf (.ref f)) k := by
  obtain ⟨of, fd, ho, hd⟩ := X
  refine ⟨.frame, .inl rfl, (Looks.ld (part := none) ho).andThen ?_⟩
  rw [hd]
  exact .now

theorem r_callF {f : Addr} {pos : Pos} {first : List Value} {e : PySem.Expr} {Q : Value → Shared → Prop} {s : Shared}
    (hq : wpAny (model prog w) A (eval e env) (fun v s₁ => (∃ of fd, s₁.heap.get? f = some of ∧ of.data = .func fd) ∧ wpAny (model prog w) A (call (.ref f) (first ++ [v])) Q E s₁) E s)
    (he : starEach [e] env = [(false, eval e env)]) :
    wpAny (model prog w) A (callWith pos (.ref f) first (backTo pos (starEach [e] env)) []) Q E s := by
  rw [he]
  refine callWith_of (P := fun h => ∃ of fd, h.get? f = some of ∧ of.data = .func fd) rfl (fun h X => fn_keeps h X) (Calls.evalArgs_plain ?_)
  exact Calls.spliced_cons (wpAny_mono hq (fun v s₁ h₁ => Calls.spliced_nil h₁) fun _ _ x => x)
end
end Mine
namespace Mine
section
variable {prog : Program} {w : World} {A : Around} {E : Value → Shared → Prop} {h : Heap} {gs : Array GenState} {dr : Drawn} {tk : Nat} {os : OsState} {env : Env}
theorem r_free {x : Str} {pos : Pos} {c : Addr} {v : Value} {Q : Value → Shared → Prop} (hl : env.kindOf x = some .free) (hk : env.scope.kind = .function) (hc : env.cells.lookup x = some c) (hv : ∃ o, h.get? c = some o ∧ o.data = .cell (some v))
    (hd : (x == ("__debug__" : Str)) = false) (hn : (x == ("__classdict__" : Str)) = false) (q : Q v ⟨h, gs, dr, tk, os⟩) : wpAny (model prog w) A (eval (.Name x pos) env) Q E ⟨h, gs, dr, tk, os⟩ :=
  wpAny_Name (wpAny_loadName_free hk hl hc hv q hn) hd
theorem r_cell {x : Str} {pos : Pos} {c : Addr} {v : Value} {Q : Value → Shared → Prop} (hl : env.kindOf x = some .cell) (hk : env.scope.kind = .function) (hc : env.cells.lookup x = some c) (hv : ∃ o, h.get? c = some o ∧ o.data = .cell (some v))
    (hd : (x == ("__debug__" : Str)) = false) (q : Q v ⟨h, gs, dr, tk, os⟩) : wpAny (model prog w) A (eval (.Name x pos) env) Q E ⟨h, gs, dr, tk, os⟩ :=
  wpAny_Name (wpAny_loadName_cell hk hl hc hv q) hd
end
end Mine
namespace Mine
section
variable {K : Frag} {g h h' : Heap} {O N : List HD} {d d' : HD}
theorem Led.calleeO (H : Led K g h O N) {j : Nat} (hj : O[j]? = some d) : Led K h h [d] [] := by
  have hm : d ∈ O ++ N := List.mem_append_left _ (List.mem_of_getElem? hj)
  refine Led.startO H.gd (fun x hx => by cases List.mem_singleton.mp hx; exact H.all d hm) ?_ (fun x hx a ha => by cases List.mem_singleton.mp hx; exact H.fr d hm a ha)
  have := H.nd
  simp only [List.flatMap_cons, List.flatMap_nil, List.append_nil]
  exact this.sublist (by simpa using fps_sub (List.singleton_sublist.mpr hm))
theorem Led.calleeN (H : Led K g h O N) {j : Nat} (hj : N[j]? = some d) : Led K h h [d] [] := by
  have hm : d ∈ O ++ N := List.mem_append_right _ (List.mem_of_getElem? hj)
  refine Led.startO H.gd (fun x hx => by cases List.mem_singleton.mp hx; exact H.all d hm) ?_ (fun x hx a ha => by cases List.mem_singleton.mp hx; exact H.fr d hm a ha)
  have := H.nd
  simp only [List.flatMap_cons, List.flatMap_nil, List.append_nil]
  exact this.sublist (by simpa using fps_sub (List.singleton_sublist.mpr hm))
theorem Led.backO (H : Led K g h O N) {j : Nat} (hj : O[j]? = some d) (hfp : d'.fp = d.fp) (H' : Led K h h' [d'] []) : Led K g h' (O.set j d') N :=
  H.modO hj hfp (fun b o hb e => H'.keep b o e (by simpa [hfp] using hb)) (H'.atO (j := 0) rfl)
theorem Led.backN (H : Led K g h O N) {j : Nat} (hj : N[j]? = some d) (hfp : d'.fp = d.fp) (H' : Led K h h' [d'] []) : Led K g h' O (N.set j d') :=
  H.mod hj hfp (fun b o hb e => H'.keep b o e (by simpa [hfp] using hb)) (H'.atO (j := 0) rfl)
theorem Led.backNew (H : Led K g h O N) {d : HD} (hn : d.fp.Nodup) (H' : Led K h h' [] [d]) : Led K g h' O (N ++ [d]) :=
  H.new (fun b o e => H'.keep b o e (by simp)) (H'.at (j := 0) rfl) (H'.nw d (by simp)) hn
theorem Led.back0 (H : Led K g h O N) (H' : Led K h h' [] []) : Led K g h' O N := H.ext (fun b o e => H'.keep b o e (by simp))
end
end Mine
namespace Mine
open Builtin Builtin.ObjectAttr in
theorem r_setattr {prog : Program} {w : World} {A : Around} {E : Value → Shared → Prop} {K : Frag} {h : Heap} {gs : Array GenState} {dr : Drawn} {tk : Nat} {os : OsState} {x dx C : Addr} {es : List DictEntry} {es' : Tok → List DictEntry} {n n' : Nat} {name : Str} {v : Value} {Q : Unit → Shared → Prop}
    (X : K.In h) (hx : h.get? x = some (instObj C dx)) (hd : h.get? dx = some (dictOf es n))
    (hs : findIn K (.ref C) "__setattr__" = some (some (.builtin "object.__setattr__"))) (hp : plainOver K C = true) (ht : takerIn K C name = some none) (hh : (clsIn K C).any (·.hasDict) = true)
    (hl : (getL name es).isSome = true) (hz : ∀ t, (es' t).length ≤ 1000) (e : ∀ t, (putL name (PyData.keyHash w.params name) (.str name t) v es, putN name es n) = (es' t, n'))
    (q : ∀ t h' tk', h'.get? dx = some (dictOf (es' t) n') → Heap.SameBut dx h h' → Q () ⟨h', gs, dr, tk', os⟩) :
    wpAny (model prog w) A (setAttr (.ref x) name v) Q E ⟨h, gs, dr, tk, os⟩ := by
  have I : InstAt h x (instObj C dx) C (some (dictOf es n)) := ⟨hx, rfl, rfl, hd⟩
  refine set_plain (s := ⟨h, gs, dr, tk, os⟩) X I hs ?_
  refine osa_open (s := ⟨h, gs, dr, tk + 1, os⟩) X I hp ht fun b => ?_
  obtain ⟨cd, hc, hd'⟩ := any_some hh
  obtain ⟨e1, e2⟩ := Prod.mk.inj (e (tk + 1))
  have pn : Obj.putName name (PyData.keyHash w.params name) (.str name (tk + 1)) v (dictOf es n) = dictOf (es' (tk + 1)) n' := by rw [putName_dict, e1, e2]
  have D' : (h.update dx (Obj.putName name (PyData.keyHash w.params name) (.str name (tk + 1)) v)).get? dx = some (dictOf (es' (tk + 1)) n') := by
    rw [← pn]; exact Heap.get?_update_self _ hd (by rw [pn]; rfl)
  refine wpAny_bind (wpAny_pure (wpAny_bind (wpAny_bind (wpAny_loadPart hx (wpAny_bind ((looks_clsIn X hc).here ?_))))))
  rw [hd']
  refine wpAny_pure (a := some dx) (wpAny_bind (wpAny_pure (wpAny_bind ?_)))
  unfold nsSet
  refine wpAny_bind (wpAny_bind (wpAny_askSetting (wpAny_pure (wpAny_bind (wpAny_mkText (wpAny_bind (wpAny_loadPart hd ?_)))))))
  have c : (!es.any (·.key.isStr name) && es.any (·.refKey)) = false := by
    unfold getL at hl
    split at hl
    · rename_i en he
      rw [List.any_eq_true.mpr ⟨en, List.mem_of_find?_eq_some he, List.find?_some he⟩]; rfl
    · split at hl
      · cases hl
      · rename_i z; rw [Bool.not_eq_true] at z; rw [z, Bool.and_false]
  dsimp only [dictOf]
  rw [aRefKeyMayBeTheName_at, List.any_toArray, List.any_toArray, c]
  refine wpAny_updatePart hd ?_
  refine wpAny_bind (wpAny_lookBehind D' (pastItsLine_dict (by have := hz (tk + 1); rw [List.size_toArray, sizeLine_eq]; (first | lia | omega))) ?_)
  exact wpAny_pure (q _ _ _ D' (Heap.SameBut.update ..))
end Mine
end

section
open PySem PySem.W PySem.Calls PyProof.Rows PySem.SeqAt
namespace Mine
def EqL (A : Around) (s : Shared) : List Value → List Value → List Bool → Prop
  | [], [], [] => True
  | v :: vs, u :: us, b :: bs => EqAt A.in1 s v u b ∧ EqL A s vs us bs
  | _, _, _ => False
theorem EqL.get {A : Around} {s : Shared} : ∀ {vs us : List Value} {bs : List Bool}, EqL A s vs us bs → vs.length = us.length ∧ vs.length = bs.length ∧ ∀ j (h1 : j < vs.length) (h2 : j < us.length), EqAt A.in1 s vs[j] us[j] (bs.getD j true)
  | [], [], [], _ => ⟨rfl, rfl, fun j h => absurd h (Nat.not_lt_zero _)⟩
  | v :: vs, u :: us, b :: bs, ⟨h, t⟩ => by
    obtain ⟨e1, e2, e3⟩ := EqL.get t
    refine ⟨by simp [e1], by simp [e2], fun j h1 h2 => ?_⟩
    cases j with
    | zero => simpa using h
    | succ j => simpa using e3 j (by simpa using h1) (by simpa using h2)
theorem all_range (bs : List Bool) : (List.range bs.length).all (fun j => bs.getD j true) = bs.all id := by
  induction bs with
  | nil => rfl
  | cons b bs ih =>
    rw [List.length_cons, List.range_succ_eq_map, List.all_cons, List.all_map, List.all_cons]
    congr 1

section
variable {prog : Program} {w : World} {A : Around} {E : Value → Shared → Prop} {s : Shared} {Q : Value → Shared → Prop}
theorem rc_eqL {l b : Addr} {vs us : List Value} {bs : List Bool} (hl : s.heap.IsList l vs.toArray) (hb : s.heap.IsList b us.toArray) (hu : A.units < cLine) (he : EqL A s vs us bs) : RcAt A s (.ref l) (.ref b) (bs.all id) := by
  obtain ⟨e1, e2, e3⟩ := he.get
  have := RcAt.lists (e := fun j => bs.getD j true) hl hb (by simpa using e1) hu (fun j h1 h2 => by simpa using e3 j (by simpa using h1) (by simpa using h2))
  rw [show vs.toArray.size = bs.length by simpa using e2, all_range] at this
  exact this
theorem rc_neL {l b : Addr} {vs us : List Value} {bs : List Bool} (hl : s.heap.IsList l vs.toArray) (hb : s.heap.IsList b us.toArray) (hu : A.units < cLine) (he : EqL A s vs us bs) : RcNeAt A s (.ref l) (.ref b) (!bs.all id) := by
  obtain ⟨e1, e2, e3⟩ := he.get
  have := RcNeAt.lists (e := fun j => bs.getD j true) hl hb (by simpa using e1) hu (fun j h1 h2 => by simpa using e3 j (by simpa using h1) (by simpa using h2))
  rw [show vs.toArray.size = bs.length by simpa using e2, all_range] at this
  exact this

theorem eqL_strs {vs us : List Value} {xs ys : List Str} (hx : Paired SV vs xs) (hy : Paired SV us ys) (hlen : xs.length = ys.length) : ∃ bs, EqL A s vs us bs ∧ bs.all id = decide (xs = ys) := by
  induction hx generalizing us ys with
  | nil =>
    cases hy with
    | nil => exact ⟨[], trivial, by simp⟩
    | cons _ _ => simp at hlen
  | cons hv t ih =>
    cases hy with
    | nil => simp at hlen
    | cons hv' t' =>
      obtain ⟨t1, rfl⟩ := hv
      obtain ⟨t2, rfl⟩ := hv'
      obtain ⟨bs, e, q⟩ := ih t' (by simpa using hlen)
      refine ⟨_ :: bs, ⟨EqAt.str_str _ _ _ _, e⟩, ?_⟩
      rw [List.all_cons, q]
      simp only [id]
      rw [Bool.eq_iff_iff]; simp
theorem rc_strs {l b : Addr} {vs us : List Value} {xs ys : List Str} (hl : s.heap.IsList l vs.toArray) (hx : Paired SV vs xs) (hb : s.heap.IsList b us.toArray) (hy : Paired SV us ys) (hu : A.units < cLine) : RcAt A s (.ref l) (.ref b) (decide (xs = ys)) := by
  by_cases hlen : xs.length = ys.length
  · obtain ⟨bs, e, q⟩ := eqL_strs (A := A) (s := s) hx hy hlen
    rw [← q]; exact rc_eqL hl hb hu e
  · have : decide (xs = ys) = false := decide_eq_false fun e => hlen (by rw [e])
    rw [this]; exact RcAt.lists_lengths hl hb (by simp [hx.length, hy.length, hlen]) hu
theorem rcn_strs {l b : Addr} {vs us : List Value} {xs ys : List Str} (hl : s.heap.IsList l vs.toArray) (hx : Paired SV vs xs) (hb : s.heap.IsList b us.toArray) (hy : Paired SV us ys) (hu : A.units < cLine) : RcNeAt A s (.ref l) (.ref b) (!decide (xs = ys)) := by
  by_cases hlen : xs.length = ys.length
  · obtain ⟨bs, e, q⟩ := eqL_strs (A := A) (s := s) hx hy hlen
    rw [← q]; exact rc_neL hl hb hu e
  · have : decide (xs = ys) = false := decide_eq_false fun e => hlen (by rw [e])
    rw [this]; exact RcNeAt.lists_lengths hl hb (by simp [hx.length, hy.length, hlen]) hu
theorem r_eqSS {l b : Addr} {vs us : List Value} {xs ys : List Str} (hl : s.heap.IsList l vs.toArray) (hx : Paired SV vs xs) (hb : s.heap.IsList b us.toArray) (hy : Paired SV us ys) (hu : A.units < cLine) (q : Q (.bool (decide (xs = ys))) s) :
    wpAny (model prog w) A (compareOp .Eq (.ref l) (.ref b)) Q E s := rc_strs hl hx hb hy hu _ _ _ _ q
theorem r_neSS {l b : Addr} {vs us : List Value} {xs ys : List Str} (hl : s.heap.IsList l vs.toArray) (hx : Paired SV vs xs) (hb : s.heap.IsList b us.toArray) (hy : Paired SV us ys) (hu : A.units < cLine) (q : Q (.bool (!decide (xs = ys))) s) :
    wpAny (model prog w) A (compareOp .NotEq (.ref l) (.ref b)) Q E s := rcn_strs hl hx hb hy hu _ _ _ _ q
theorem r_lmeth {l : Addr} {vs : Array Value} {name : Str} {id : String} {pl : Sem Bool} {Q : Value × List Value → Shared → Prop} (hl : s.heap.PlainList l vs) (slot : Slot "list" name id)
    (hty : typeOf (.builtin id) = pure (.type "method_descriptor")) (q : Q (.builtin id, [.ref l]) s) : wpAny (model prog w) A (getMethod (.ref l) name pl) Q E s :=
  getMethod_list_of slot hty hl.isList (by obtain ⟨n, hl⟩ := hl; exact ⟨_, hl, rfl⟩) q
end
end Mine
end

section
open PySem PySem.W PySem.Calls PyProof.Rows
namespace Mine
noncomputable abbrev KK (w : World) : Frag := hd03.heap_39 w.params
abbrev PG : Program := PySem.Challenge.rw_qu0003_03.row.prog
def chS (c : Nat) : Str := ⟨#[c]⟩
def hdS : List Nat → Str
  | [] => ""
  | c :: _ => chS c
def nls (cs : List Nat) : Int := ((cs.filter (· == 10)).length : Nat)

theorem nls_nil : nls [] = 0 := rfl
theorem nls_cons (c : Nat) (r : List Nat) : nls (c :: r) = (if c = 10 then 1 else 0) + nls r := by
  unfold nls
  rw [List.filter_cons]
  by_cases h : c = 10
  · simp [h]; (first | lia | omega)
  · simp [h]
theorem chS_eq {c d : Nat} : chS c = chS d ↔ c = d := by
  constructor
  · intro h; have := congrArg Str.cps h; simpa [chS] using this
  · intro h; rw [h]
theorem chS_nl : (Str.ofString "\n") = chS 10 := by decide
theorem hdS_nl {rest : List Nat} : (hdS rest == Str.ofString "\n") = true → nls rest = nls rest.tail + 1 := by
  cases rest with
  | nil => intro h; exact absurd h (by decide)
  | cons c r =>
    intro h
    have h := eq_of_beq h
    rw [chS_nl] at h
    have : c = 10 := chS_eq.mp h
    rw [nls_cons, this, if_pos rfl, List.tail_cons]; (first | lia | omega)
theorem hdS_not {rest : List Nat} : (hdS rest == Str.ofString "\n") = false → nls rest = nls rest.tail := by
  cases rest with
  | nil => intro _; rfl
  | cons c r =>
    intro h
    have : c ≠ 10 := fun e => by rw [e, show hdS (10 :: r) = Str.ofString "\n" from chS_nl.symm] at h; simp at h
    rw [nls_cons, if_neg this, List.tail_cons]; (first | lia | omega)

noncomputable def lamAt (w : World) : Option (Arguments × PySem.Expr × Scope) := match (KK w).lookup 80 with
  | some ⟨_, _, .func fd, _⟩ => (match fd.body with
      | .stmts (_ :: _ :: _ :: .Assign _ (.Lambda a b s _) _ :: _) => some (a, b, s)
      | _ => none)
  | _ => none

structure LA where
  x : Addr
  dx : Addr
  st : Addr
  sd : Addr
  rd : Addr
  cc : Addr
  ce : Addr
  sg : Addr
  pb : Addr

def lexEs (w : World) (a : LA) (line : Int) (t1 t2 t3 t4 t5 t6 : Tok) : List DictEntry :=
  [⟨PyData.keyHash w.params "lineno", .str "lineno" t1, .int line t2⟩, ⟨PyData.keyHash w.params "instream", .str "instream" t3, .ref a.st⟩,
   ⟨PyData.keyHash w.params "whitespace", .str "whitespace" t4, .str "\n\t\u000d " t5⟩, ⟨PyData.keyHash w.params "pushback", .str "pushback" t6, .ref a.pb⟩]

structure LexP (w : World) (a : LA) (pbk : List Str) (rest : List Nat) (T : Int) (h : Heap) : Prop where
  x : h.get? a.x = some (instObj 59 a.dx)
  dx : ∃ t1 t2 t3 t4 t5 t6 n, h.get? a.dx = some (dictOf (lexEs w a (T - nls rest) t1 t2 t3 t4 t5 t6) n)
  st : ∃ fda, h.get? a.st = some { cls := .type "function", dict := some a.sd, data := .func fda }
  sd : ∃ t n, h.get? a.sd = some (dictOf [⟨PyData.keyHash w.params "read", .str "read" t, .ref a.rd⟩] n)
  rd : ∃ pm ctv o, h.get? a.rd = some o ∧ ∀ p b s, lamAt w = some (p, b, s) → o = kla_obj "<lambda>" "_law_lexer.<locals>.<lambda>" p b s [("signs", a.ce)] pm a.cc ctv
  cc : ∃ oc vs t, h.get? a.cc = some oc ∧ oc.data = .fields vs ∧ vs[1]? = some (.str "_law_lexer.<locals>.<lambda>" t)
  ce : ∃ o, h.get? a.ce = some o ∧ o.data = .cell (some (.ref a.sg))
  sg : ∃ vs : List Value, h.PlainList a.sg vs.toArray ∧ Paired SV vs (rest.reverse.map chS)
  pb : ∃ vs : List Value, h.PlainList a.pb vs.toArray ∧ Paired SV vs pbk

def lexD (w : World) (a : LA) (pbk : List Str) (rest : List Nat) (T : Int) : HD where
  fp := [a.x, a.dx, a.st, a.sd, a.rd, a.cc, a.ce, a.sg, a.pb]
  P h := LexP w a pbk rest T h
  st h h' e p := by
    have e' : ∀ b ∈ [a.x, a.dx, a.st, a.sd, a.rd, a.cc, a.ce, a.sg, a.pb], ∀ o, h.get? b = some o → h'.get? b = some o := e
    simp only [List.mem_cons, List.not_mem_nil, or_false, forall_eq_or_imp, forall_eq] at e'
    obtain ⟨e1, e2, e3, e4, e5, e6, e7, e8, e9⟩ := e'
    refine ⟨e1 _ p.x, ?_, ?_, ?_, ?_, ?_, ?_, ?_, ?_⟩
    · obtain ⟨t1, t2, t3, t4, t5, t6, n, q⟩ := p.dx; exact ⟨t1, t2, t3, t4, t5, t6, n, e2 _ q⟩
    · obtain ⟨f, q⟩ := p.st; exact ⟨f, e3 _ q⟩
    · obtain ⟨t, n, q⟩ := p.sd; exact ⟨t, n, e4 _ q⟩
    · obtain ⟨t, n, o, q, r⟩ := p.rd; exact ⟨t, n, o, e5 _ q, r⟩
    · obtain ⟨o, vs, t, q, r⟩ := p.cc; exact ⟨o, vs, t, e6 _ q, r⟩
    · obtain ⟨o, q, r⟩ := p.ce; exact ⟨o, e7 _ q, r⟩
    · obtain ⟨vs, q, r⟩ := p.sg; exact ⟨vs, q.at (e8), r⟩
    · obtain ⟨vs, q, r⟩ := p.pb; exact ⟨vs, q.at (e9), r⟩
  al h p b hb := by
    simp only [List.mem_cons, List.not_mem_nil, or_false] at hb
    rcases hb with rfl | rfl | rfl | rfl | rfl | rfl | rfl | rfl | rfl
    · exact ⟨_, p.x⟩
    · obtain ⟨_, _, _, _, _, _, _, q⟩ := p.dx; exact ⟨_, q⟩
    · obtain ⟨_, q⟩ := p.st; exact ⟨_, q⟩
    · obtain ⟨_, _, q⟩ := p.sd; exact ⟨_, q⟩
    · obtain ⟨_, _, _, q, _⟩ := p.rd; exact ⟨_, q⟩
    · obtain ⟨_, _, _, q, _⟩ := p.cc; exact ⟨_, q⟩
    · obtain ⟨_, q, _⟩ := p.ce; exact ⟨_, q⟩
    · obtain ⟨_, ⟨_, q⟩, _⟩ := p.sg; exact ⟨_, q⟩
    · obtain ⟨_, ⟨_, q⟩, _⟩ := p.pb; exact ⟨_, q⟩


theorem nd_ne {l : List Addr} (nd : l.Nodup) {i j : Nat} {x y : Addr} (hi : l[i]? = some x) (hj : l[j]? = some y) (h : i ≠ j) : x ≠ y := fun e =>
  h ((List.getElem?_inj (List.getElem?_eq_some_iff.mp hi).1 nd).mp (by rw [hi, hj, e]))
theorem LexP.setSg {w : World} {a : LA} {pbk : List Str} {rest rest' : List Nat} {T T' : Int} {h h' : Heap} (p : LexP w a pbk rest T h) (nd : [a.x, a.dx, a.st, a.sd, a.rd, a.cc, a.ce, a.sg, a.pb].Nodup)
    (e : ∀ b o, b ≠ a.sg → h.get? b = some o → h'.get? b = some o) (hT : T' - nls rest' = T - nls rest) (sg : ∃ vs : List Value, h'.PlainList a.sg vs.toArray ∧ Paired SV vs (rest'.reverse.map chS)) : LexP w a pbk rest' T' h' := by
  refine ⟨e _ _ (nd_ne nd (i := 0) (j := 7) rfl rfl (by decide)) p.x, ?_, ?_, ?_, ?_, ?_, ?_, sg, ?_⟩
  · obtain ⟨t1, t2, t3, t4, t5, t6, n, q⟩ := p.dx; rw [← hT] at q; exact ⟨t1, t2, t3, t4, t5, t6, n, e _ _ (nd_ne nd (i := 1) (j := 7) rfl rfl (by decide)) q⟩
  · obtain ⟨f, q⟩ := p.st; exact ⟨f, e _ _ (nd_ne nd (i := 2) (j := 7) rfl rfl (by decide)) q⟩
  · obtain ⟨t, n, q⟩ := p.sd; exact ⟨t, n, e _ _ (nd_ne nd (i := 3) (j := 7) rfl rfl (by decide)) q⟩
  · obtain ⟨t, n, o, q, r⟩ := p.rd; exact ⟨t, n, o, e _ _ (nd_ne nd (i := 4) (j := 7) rfl rfl (by decide)) q, r⟩
  · obtain ⟨o, vs, t, q, r⟩ := p.cc; exact ⟨o, vs, t, e _ _ (nd_ne nd (i := 5) (j := 7) rfl rfl (by decide)) q, r⟩
  · obtain ⟨o, q, r⟩ := p.ce; exact ⟨o, e _ _ (nd_ne nd (i := 6) (j := 7) rfl rfl (by decide)) q, r⟩
  · obtain ⟨vs, q, r⟩ := p.pb; exact ⟨vs, q.at (e _ · (nd_ne nd (i := 8) (j := 7) rfl rfl (by decide))), r⟩
theorem LexP.setPb {w : World} {a : LA} {pbk pbk' : List Str} {rest : List Nat} {T : Int} {h h' : Heap} (p : LexP w a pbk rest T h) (nd : [a.x, a.dx, a.st, a.sd, a.rd, a.cc, a.ce, a.sg, a.pb].Nodup)
    (e : ∀ b o, b ≠ a.pb → h.get? b = some o → h'.get? b = some o) (pb : ∃ vs : List Value, h'.PlainList a.pb vs.toArray ∧ Paired SV vs pbk') : LexP w a pbk' rest T h' := by
  refine ⟨e _ _ (nd_ne nd (i := 0) (j := 8) rfl rfl (by decide)) p.x, ?_, ?_, ?_, ?_, ?_, ?_, ?_, pb⟩
  · obtain ⟨t1, t2, t3, t4, t5, t6, n, q⟩ := p.dx; exact ⟨t1, t2, t3, t4, t5, t6, n, e _ _ (nd_ne nd (i := 1) (j := 8) rfl rfl (by decide)) q⟩
  · obtain ⟨f, q⟩ := p.st; exact ⟨f, e _ _ (nd_ne nd (i := 2) (j := 8) rfl rfl (by decide)) q⟩
  · obtain ⟨t, n, q⟩ := p.sd; exact ⟨t, n, e _ _ (nd_ne nd (i := 3) (j := 8) rfl rfl (by decide)) q⟩
  · obtain ⟨t, n, o, q, r⟩ := p.rd; exact ⟨t, n, o, e _ _ (nd_ne nd (i := 4) (j := 8) rfl rfl (by decide)) q, r⟩
  · obtain ⟨o, vs, t, q, r⟩ := p.cc; exact ⟨o, vs, t, e _ _ (nd_ne nd (i := 5) (j := 8) rfl rfl (by decide)) q, r⟩
  · obtain ⟨o, q, r⟩ := p.ce; exact ⟨o, e _ _ (nd_ne nd (i := 6) (j := 8) rfl rfl (by decide)) q, r⟩
  · obtain ⟨vs, q, r⟩ := p.sg; exact ⟨vs, q.at (e _ · (nd_ne nd (i := 7) (j := 8) rfl rfl (by decide))), r⟩
theorem LexP.setDx {w : World} {a : LA} {pbk : List Str} {rest : List Nat} {T T' : Int} {h h' : Heap} (p : LexP w a pbk rest T h) (nd : [a.x, a.dx, a.st, a.sd, a.rd, a.cc, a.ce, a.sg, a.pb].Nodup)
    (e : ∀ b o, b ≠ a.dx → h.get? b = some o → h'.get? b = some o) (dx : ∃ t1 t2 t3 t4 t5 t6 n, h'.get? a.dx = some (dictOf (lexEs w a (T' - nls rest) t1 t2 t3 t4 t5 t6) n)) : LexP w a pbk rest T' h' := by
  refine ⟨e _ _ (nd_ne nd (i := 0) (j := 1) rfl rfl (by decide)) p.x, dx, ?_, ?_, ?_, ?_, ?_, ?_, ?_⟩
  · obtain ⟨f, q⟩ := p.st; exact ⟨f, e _ _ (nd_ne nd (i := 2) (j := 1) rfl rfl (by decide)) q⟩
  · obtain ⟨t, n, q⟩ := p.sd; exact ⟨t, n, e _ _ (nd_ne nd (i := 3) (j := 1) rfl rfl (by decide)) q⟩
  · obtain ⟨t, n, o, q, r⟩ := p.rd; exact ⟨t, n, o, e _ _ (nd_ne nd (i := 4) (j := 1) rfl rfl (by decide)) q, r⟩
  · obtain ⟨o, vs, t, q, r⟩ := p.cc; exact ⟨o, vs, t, e _ _ (nd_ne nd (i := 5) (j := 1) rfl rfl (by decide)) q, r⟩
  · obtain ⟨o, q, r⟩ := p.ce; exact ⟨o, e _ _ (nd_ne nd (i := 6) (j := 1) rfl rfl (by decide)) q, r⟩
  · obtain ⟨vs, q, r⟩ := p.sg; exact ⟨vs, q.at (e _ · (nd_ne nd (i := 7) (j := 1) rfl rfl (by decide))), r⟩
  · obtain ⟨vs, q, r⟩ := p.pb; exact ⟨vs, q.at (e _ · (nd_ne nd (i := 8) (j := 1) rfl rfl (by decide))), r⟩
theorem lex_nd {K : Frag} {g h : Heap} {w : World} {a : LA} {pbk : List Str} {rest : List Nat} {T : Int} {O N : List HD} (H : Led K g h (lexD w a pbk rest T :: O) N) : [a.x, a.dx, a.st, a.sd, a.rd, a.cc, a.ce, a.sg, a.pb].Nodup := by
  have := H.nd
  rw [List.cons_append, List.flatMap_cons] at this
  exact (List.nodup_append.mp this).1

theorem lex_fps {w : World} {a : LA} {pbk pbk' : List Str} {rest rest' : List Nat} {T T' : Int} : (lexD w a pbk rest T).fp = (lexD w a pbk' rest' T').fp := rfl

theorem Paired.snoc_inv {α β : Type} {F : α → β → Prop} {b : β} : ∀ {l₁ : List α} {l₂ : List β}, Paired F l₁ (l₂ ++ [b]) → ∃ l a, l₁ = l ++ [a] ∧ Paired F l l₂ ∧ F a b
  | _, [], .cons h .nil => ⟨[], _, rfl, .nil, h⟩
  | _, y :: l₂, .cons h t => by
    obtain ⟨l, a, rfl, p, q⟩ := Paired.snoc_inv t
    exact ⟨_ :: l, a, rfl, .cons h p, q⟩
theorem deeper_units' (A : Around) (env : Env) : (A.deeper env).units = A.units + 3 := rfl
theorem deeper_depth' (A : Around) (env : Env) : (A.deeper env).depth = A.depth + 1 := rfl

set_option maxRecDepth 100000 in
set_option maxHeartbeats 8000000 in
theorem rd_call {w : World} {A : Around} {h : Heap} {gs : Array GenState} {dr : Drawn} {tk : Nat} {os : OsState} {R : Result → Shared → Prop} {a : LA} {pbk : List Str} {rest : List Nat} {T : Int} {u : Tok}
    (H : Led (KK w) h h [lexD w a pbk rest T] []) (hd : A.depth < 900) (hu : A.units < 1000) (hsz : rest.length < 5000)
    (k : ∀ h' tk' t, Led (KK w) h h' [lexD w a pbk rest.tail (T - nls rest + nls rest.tail)] [] → R (.ok (.ret (.str (hdS rest) t))) ⟨h', gs, dr, tk', os⟩) :
    codeAny (model PG w) A (.call (.ref a.rd) ⟨[.int 1 u], []⟩) R ⟨h, gs, dr, tk, os⟩ := by
  have LP : LexP w a pbk rest T h := H.atO (j := 0) (d := lexD w a pbk rest T) rfl
  obtain ⟨pm, ctv, o, hrd, ho⟩ := LP.rd
  have ho := ho _ _ _ rfl
  subst ho
  obtain ⟨oc, cvs, t, hcc, hcd, hcv⟩ := LP.cc
  have hcr : h.CodeRec (.ref a.cc) "_law_lexer.<locals>.<lambda>" := ⟨_, oc, cvs, t, rfl, hcc, hcd, hcv⟩
  refine r_enterE (lv := [(("size" : Str), .int 1 u)]) H (Nat.lt_of_lt_of_le hd (by decide)) hrd (by rfl) (by exact hcr) (by rfl) (by rfl) (by rfl) (by rfl) (by rfl) (by rfl) (by rfl) (by rfl) ?_
  intro E' L h₁ tk₁ H1
  have L1 : LexP w a pbk rest T h₁ := H1.atO (j := 0) (d := lexD w a pbk rest T) rfl
  walk1
  walk1
  refine r_free (by rfl) (by rfl) (by rfl) L1.ce (by decide) (by decide) ?_
  walk1
  walk1
  refine r_newList H1 (by simp) ?_; intro a2 h2 tk2 H2
  have L2 : LexP w a pbk rest T h2 := H2.atO (j := 0) (d := lexD w a pbk rest T) rfl
  obtain ⟨vs, hvs, hp⟩ := L2.sg
  have he : h2.PlainList a2 ([] : List Value).toArray := H2.at (j := 1) (d := plainD a2 []) rfl
  refine r_neSS hvs.isList hp he.isList .nil (by show A.units + 3 < 9900; (first | lia | omega)) ?_
  walk1
  cases rest with
  | nil =>
    walk1
    walk1
    have H3 := (H2.sub (N' := []) (List.nil_sublist _)).modO (j := 0) (d := lexD w a pbk [] T) (d' := lexD w a pbk [] T) rfl rfl (fun _ _ _ e => e) L2
    exact k _ _ _ (by simpa [nls] using H3)
  | cons c rest =>
    have hne : decide (List.map chS (c :: rest).reverse = []) = false := by simp
    rw [hne, if_pos (by decide)]
    walk1
    refine r_free (by rfl) (by rfl) (by rfl) L2.ce (by decide) (by decide) ?_
    refine r_lmeth hvs PySem.F.slot_list_pop PySem.F.type_list_pop ?_
    have hp' := hp
    rw [List.reverse_cons, List.map_append] at hp'
    obtain ⟨vs', v, rfl, hp1, t, rfl⟩ := Paired.snoc_inv hp'
    refine w_pop hvs (by have := hp1.length; simp at this hsz; (first | lia | omega)) ?_; intro h3 hl3 hs3
    have nd := lex_nd H2
    have L3 : LexP w a pbk rest (T - nls (c :: rest) + nls rest) h3 := L2.setSg nd (fun b o hb e => hs3.extBut b o hb e) (by (first | lia | omega)) ⟨vs', hl3, hp1⟩
    have H3 := (H2.sub (N' := []) (List.nil_sublist _)).modO (j := 0) (d := lexD w a pbk (c :: rest) T) (d' := lexD w a pbk rest (T - nls (c :: rest) + nls rest)) rfl rfl
      (fun b o hb e => hs3.extBut b o (fun q => hb (by rw [q]; simp [lexD])) e) L3
    exact k _ _ _ H3
theorem r_lattr {w : World} {A : Around} {E : Value → Shared → Prop} {h : Heap} {gs : Array GenState} {dr : Drawn} {tk : Nat} {os : OsState} {a : LA} {pbk : List Str} {rest : List Nat} {T : Int} {name : Str} {expr : Bool} {Q : Value → Shared → Prop} {es : List DictEntry} {n : Nat} {v : Value}
    (G : Gd (KK w) h) (hx : h.get? a.x = some (instObj 59 a.dx)) (hd : h.get? a.dx = some (dictOf es n)) (hga : findIn (KK w) (.ref 59) "__getattribute__" = some (some (.builtin "object.__getattribute__")))
    (hf : findObj (KK w) 59 (some (dictOf es n)) name = some (.value v)) (hh : handedIn v = true) (q : ∀ tk', Q v ⟨h, gs, dr, tk', os⟩) :
    wpAny (model PG w) A (getAttr (.ref a.x) name expr) Q E ⟨h, gs, dr, tk, os⟩ :=
  get_value G.frag ⟨hx, rfl, rfl, hd⟩ hga hf hh (q _)

set_option maxRecDepth 100000 in
set_option maxHeartbeats 8000000 in
theorem rc_call {w : World} {A : Around} {h : Heap} {gs : Array GenState} {dr : Drawn} {tk : Nat} {os : OsState} {R : Result → Shared → Prop} {a : LA} {pbk : List Str} {rest : List Nat} {T : Int}
    (H : Led (KK w) h h [lexD w a pbk rest T] []) (hd : A.depth < 800) (hu : A.units < 900) (hsz : rest.length < 5000) (hT : 0 ≤ T ∧ T < 100000)
    (k : ∀ h' tk' t, Led (KK w) h h' [lexD w a pbk rest.tail T] [] → R (.ok (.ret (.str (hdS rest) t))) ⟨h', gs, dr, tk', os⟩) :
    codeAny (model PG w) A (.call (.ref 42) ⟨[.ref a.x], []⟩) R ⟨h, gs, dr, tk, os⟩ := by
  refine r_enter (lv := [(("self" : Str), .ref a.x)]) H (Nat.lt_of_lt_of_le hd (by decide)) rfl rfl rfl rfl rfl rfl rfl rfl rfl rfl ?_
  intro E' L h₁ tk₁ H1
  have L1 : LexP w a pbk rest T h₁ := H1.atO (j := 0) (d := lexD w a pbk rest T) rfl
  obtain ⟨t1, t2, t3, t4, t5, t6, n, hdx⟩ := L1.dx
  repeat' walk1
  refine r_lattr (pbk := pbk) (rest := rest) (T := T) H1.gd L1.x hdx (by rfl) (by rfl) (by rfl) ?_; intro tk2
  obtain ⟨fda, hst⟩ := L1.st
  obtain ⟨t7, n7, hsd⟩ := L1.sd
  refine r_fattr hst rfl rfl rfl hsd fn_read (by rfl) (by rfl) ?_; intro tk3
  refine r_callF ?_ (by rfl)
  walk1
  obtain ⟨pm, ctv, o, hrd, ho⟩ := L1.rd
  have ho := ho _ _ _ rfl
  refine ⟨⟨o, _, hrd, by rw [ho]⟩, ?_⟩
  refine wpAny_call (rd_call (H1.calleeO (j := 0) rfl) (by rw [deeper_depth']; (first | lia | omega)) (by rw [deeper_units']; (first | lia | omega)) hsz ?_); intro h4 tk4 t4' H4
  have H5 := H1.backO (j := 0) rfl (by rfl) H4
  simp only [List.set_cons_zero] at H5
  clear H4 H1 L1 H hdx hst hsd hrd ho
  dsimp only
  repeat' walk1
  · rename_i h6 tk6 H6 t6' tk6' hnl
    have L6 : LexP w a pbk rest.tail (T - nls rest + nls rest.tail) h6 := H6.atO (j := 0) (d := lexD w a pbk rest.tail (T - nls rest + nls rest.tail)) rfl
    obtain ⟨t1, t2, t3, t4, t5, t6, n, hdx⟩ := L6.dx
    refine r_lattr (pbk := pbk) (rest := rest.tail) (T := T) H6.gd L6.x hdx (by rfl) (by rfl) (by rfl) ?_; intro tk7
    repeat' walk1
    have hn := hdS_nl hnl
    refine r_setattr (es' := fun _ => lexEs w a (T - nls rest + nls rest.tail - nls rest.tail + 1) t1 _ t3 t4 t5 t6) (n' := n) H6.gd.frag L6.x hdx (by rfl) (by rfl) (by rfl) (by rfl) (by rfl) (by intro _; simp [lexEs]) (by intro _; rfl) ?_
    intro t8 h8 tk8 hd8 hs8
    have L8 : LexP w a pbk rest.tail T h8 := L6.setDx (lex_nd H6) (fun b o hb e => hs8.extBut b o hb e) ⟨_, _, _, _, _, _, _, by rw [show T - nls rest.tail = T - nls rest + nls rest.tail - nls rest.tail + 1 by (first | lia | omega)]; exact hd8⟩
    have H8 := H6.modO (j := 0) (d' := lexD w a pbk rest.tail T) rfl rfl (fun b o hb e => hs8.extBut b o (fun q => hb (by rw [q]; simp [lexD])) e) L8
    simp only [List.set_cons_zero] at H8
    repeat' walk1
    exact k _ _ _ (H8.sub (List.nil_sublist _))
  · rename_i h6 tk6 H6 t6' tk6' hnl
    have hn := hdS_not hnl
    rw [show T - nls rest + nls rest.tail = T by (first | lia | omega)] at H6
    exact k _ _ _ (H6.sub (List.nil_sublist _))
end Mine
end

section
open PySem PySem.W PySem.Calls PyProof.Rows
namespace Mine
theorem slot_ci_next : Slot "callable_iterator" "__next__" "callable_iterator.__next__" :=
  .of (owner := "callable_iterator") (n := "__next__") (by rw [typeLookup_type, builtinLookup_eq_fast]; kernel_rfl) (by decide +kernel) (by decide +kernel) (by decide +kernel)
    (by first | exact .inl (by decide +kernel) | exact .inr (by decide +kernel)) (by rw [isSubtype_type]; kernel_rfl)
theorem slot_ci_iter : Slot "callable_iterator" "__iter__" "callable_iterator.__iter__" :=
  .of (owner := "callable_iterator") (n := "__iter__") (by rw [typeLookup_type, builtinLookup_eq_fast]; kernel_rfl) (by decide +kernel) (by decide +kernel) (by decide +kernel)
    (by first | exact .inl (by decide +kernel) | exact .inr (by decide +kernel)) (by rw [isSubtype_type]; kernel_rfl)
theorem entry_ci_next : entryFor table "callable_iterator.__next__" = some Builtin.«callable_iterator.__next__» := entryFor_of_tree (by kernel_rfl)
theorem entry_ci_iter : entryFor table "callable_iterator.__iter__" = some Builtin.«dict_keyiterator.__iter__» :=
  entryFor_alias (id' := "dict_keyiterator.__iter__") (by kernel_rfl) (by first | rfl | decide +kernel) (by decide +kernel) (by kernel_rfl)
theorem owner_ci : Manifest.owners.lookup (String.ofList ['r', 'o', 't', 'a', 'r', 'e', 't', 'i', '_', 'e', 'l', 'b', 'a', 'l', 'l', 'a', 'c'].reverse) = some Manifest.sig_callable_iterator := by kernel_rfl
theorem args_ci_next (a : Value) : argsOk "callable_iterator.__next__" ⟨[a], []⟩ := by
  unfold argsOk; rw [signature?_of (id := "callable_iterator.__next__") (n := ['_', '_', 't', 'x', 'e', 'n', '_', '_']) (o := ['r', 'o', 't', 'a', 'r', 'e', 't', 'i', '_', 'e', 'l', 'b', 'a', 'l', 'l', 'a', 'c']) (by kernel_rfl) owner_ci]; kernel_rfl
theorem args_ci_iter (a : Value) : argsOk "callable_iterator.__iter__" ⟨[a], []⟩ := by
  unfold argsOk; rw [signature?_of (id := "callable_iterator.__iter__") (n := ['_', '_', 'r', 'e', 't', 'i', '_', '_']) (o := ['r', 'o', 't', 'a', 'r', 'e', 't', 'i', '_', 'e', 'l', 'b', 'a', 'l', 'l', 'a', 'c']) (by kernel_rfl) owner_ci]; kernel_rfl

theorem callBorrowed_eq (f : Value) (pos : List Value) : callBorrowed f pos = (call f pos).keep [borrowed] := by
  unfold callBorrowed call runValue run
  show Sem.call _ _ _ _ _ = Sem.call _ _ _ _ _
  congr 1
  funext r
  cases r with
  | error e => rfl
  | ok f => cases f <;> rfl

abbrev ciObj (f sentinel : Value) : Obj := { cls := .type "callable_iterator", data := .fields #[f, sentinel, .bool false] }

section
variable {prog : Program} {w : World} {A : Around} {E : Value → Shared → Prop} {h : Heap} {gs : Array GenState} {dr : Drawn} {tk : Nat} {os : OsState}

theorem ci_iter {it : Addr} {f v : Value} {Q : Value → Shared → Prop} (hit : h.get? it = some (ciObj f v)) (q : Q (.ref it) ⟨h, gs, dr, tk, os⟩) : wpAny (model prog w) A (pyIter (.ref it)) Q E ⟨h, gs, dr, tk, os⟩ := by
  have hT : (⟨h, gs, dr, tk, os⟩ : Shared).TypeIs (.ref it) "callable_iterator" := ⟨_, hit, rfl⟩
  refine wpAny_pyIter_slot hT slot_ci_iter (wpAny_call_entry slot_ci_iter hT entry_ci_iter ?_ (args_ci_iter _))
  show wpAny _ _ (ret (.ref it)) _ _ _
  exact wpAny_pure ⟨_, rfl, "callable_iterator", _, hT, slot_ci_next.lookup, q⟩

theorem ci_next {it q f x : Addr} {t : Tok} {of : Obj} {fd : FuncData} {Q : Option Value → Shared → Prop} (hh : A.handled = none) (hit : h.get? it = some (ciObj (.ref q) (.str "" t))) (hq : h.get? q = some (methodObj (.ref f) (.ref x)))
    (hf : h.get? f = some of) (hfd : of.data = .func fd)
    (hc : codeAny (model prog w) A.in1 (.call (.ref f) ⟨[.ref x], []⟩) (fun r s' => ∃ y u h' tk', r = .ok (.ret (.str y u)) ∧ s' = ⟨h', gs, dr, tk', os⟩ ∧ h'.get? it = some (ciObj (.ref q) (.str "" t)) ∧ h'.get? q = some (methodObj (.ref f) (.ref x)) ∧ (∃ of fd, h'.get? f = some of ∧ of.data = .func fd) ∧
      (if y = "" then ∀ h'', (∀ b o, b ≠ it → h'.get? b = some o → h''.get? b = some o) → Q none ⟨h'', gs, dr, tk', os⟩ else Q (some (.str y u)) ⟨h', gs, dr, tk', os⟩)) ⟨h, gs, dr, tk, os⟩) :
    wpAny (model prog w) A (pyNext (.ref it)) Q E ⟨h, gs, dr, tk, os⟩ := by
  have hT : (⟨h, gs, dr, tk, os⟩ : Shared).TypeIs (.ref it) "callable_iterator" := ⟨_, hit, rfl⟩
  unfold pyNext
  refine wpAny_bind (wpAny_attempt (wpAny_callSpecial?_slot (name := Str.ofString "__next__") hT slot_ci_next (wpAny_call_entry slot_ci_next hT entry_ci_next ?_ (args_ci_next _))))
  unfold Builtin.«callable_iterator.__next__»
  refine wpAny_bind (wpAny_pure ?_)
  refine wpAny_bind (wpAny_field hit rfl (x := .bool false) rfl ?_)
  refine wpAny_bind (wpAny_field hit rfl (x := .ref q) rfl ?_)
  refine wpAny_bind (wpAny_attempt ?_)
  unfold callOutOfASlot
  have bor : ∀ {h' : Heap}, h'.get? q = some (methodObj (.ref f) (.ref x)) → (∃ of fd, h'.get? f = some of ∧ of.data = .func fd) → Looks (model prog w) h' (borrowsExactly (.ref q)) true := by
    intro h' h1 h2
    obtain ⟨of, fd, h2, h3⟩ := h2
    refine (Looks.ld (part := none) h1).andThen ?_
    refine (show Looks (model prog w) h' _ true from ?_)
    refine (Looks.ld (part := none) h2).andThen ?_
    rw [h3]
    exact .now
  refine wpAny_bind ((bor hq ⟨of, fd, hf, hfd⟩).at ?_)
  rw [if_pos rfl, callBorrowed_eq]
  refine wpAny_keep (wpAny_call (method_call (s := ⟨h, gs, dr, tk, os⟩) hq (codeAny_mono hc ?_)))
  rintro r s' ⟨y, u, h', tk', rfl, rfl, hit', hq', hf', hQ⟩
  dsimp only
  refine wpAny_bind (wpAny_field hit' rfl (x := .bool false) rfl ?_)
  refine wpAny_bind (wpAny_field hit' rfl (x := .str "" t) rfl ?_)
  refine wpAny_bind (wpAny_holding (wpAny_eqBool_str ?_))
  by_cases hy : y = ""
  · subst hy
    rw [if_pos rfl] at hQ
    refine wpAny_bind (wpAny_rule ?_)
    refine wpAny_bind ?_
    show wpAny _ _ (field (.ref it) 0 >>= _) _ _ _
    refine wpAny_bind (wpAny_field hit' rfl (x := .ref q) rfl ?_)
    refine wpAny_bind ?_
    unfold slotLetsGo
    refine wpAny_bind ((bor hq' hf').at ?_)
    refine wpAny_pure ?_
    refine wpAny_bind (wpAny_setField hit' rfl (by simp) ?_)
    refine wpAny_bind (wpAny_setField (Heap.get?_update_self _ hit' rfl) rfl (by simp) ?_)
    refine wpAny_setField (Heap.get?_update_self _ (Heap.get?_update_self _ hit' rfl) rfl) rfl (by simp) ?_
    show wpAny _ _ (newExc (.type "StopIteration") [] >>= _) _ _ _
    refine wpAny_bind ?_
    simp only [newExc, newTuple]
    refine wpAny_bind (wpAny_newObj_type ?_ (by size_fits))
    refine wpAny_bind (m := firstArgMember _ _) (wpAny_of_eq (a := Value.none) (by first | rfl | (simp only [firstArgMember]; rfl)) ?_)
    refine wpAny_newObj_type ?_ (by size_fits)
    simp only [raiseNew]
    refine wpAny_bind (wpAny_handled ?_)
    rw [show A.in1.handled = none from hh]
    refine wpAny_bind (wpAny_pure (wpAny_throw ?_))
    refine wpAny_bind (wpAny_isInstance (T := "StopIteration") (b := true) ⟨_, Heap.get?_push_size _ rfl, rfl⟩ isSubtype_stop ?_)
    refine wpAny_pure (hQ _ fun b o hb e => ?_)
    have n1 : ∀ (H : Heap) (f : Obj → Obj), H.get? b = some o → (H.update it f).get? b = some o := fun H f e => by rw [Heap.get?_update_other _ _ (Ne.symm hb)]; exact e
    exact Heap.get?_push_of_some _ (Heap.get?_push_of_some _ (n1 _ _ (n1 _ _ (n1 _ _ e))))
  · rw [if_neg hy] at hQ
    rw [decide_eq_false (fun e => hy e.symm)]
    exact wpAny_pure ⟨_, rfl, wpAny_pure hQ⟩
end
end Mine
namespace Mine
theorem args_iter2 (a b : Value) : argsOk "iter" ⟨[a, b], []⟩ := by unfold argsOk; kernel_rfl
theorem me_call : typeLookup (.type "method") "__call__" = pure (some (.builtin "method.__call__")) := by rw [typeLookup_type, builtinLookup_eq_fast]; kernel_rfl
section
variable {prog : Program} {w : World} {A : Around} {E : Value → Shared → Prop} {K : Frag} {g h : Heap} {O N : List HD} {gs : Array GenState} {dr : Drawn} {tk : Nat} {os : OsState}
theorem ci_make {q : Addr} {f x v : Value} {Q : Value → Shared → Prop} (hq : h.get? q = some (methodObj f x)) (k : Q (.ref h.objs.size) ⟨h.push (ciObj (.ref q) v), gs, dr, tk, os⟩) :
    wpAny (model prog w) A (call (.builtin "iter") [.ref q, v]) Q E ⟨h, gs, dr, tk, os⟩ := by
  refine Calls.call_function_entry (by decide +kernel) (by decide +kernel) PySem.W.kdk_entry_iter (args_iter2 _ _) ?_
  unfold Builtin.«iter»
  refine wpAny_bind (m := someArgs "iter" 1 2 _) (wpAny_of_eq (a := [Value.ref q, v]) (by first | rfl | kernel_rfl!) ?_)
  have hT : (⟨h, gs, dr, tk, os⟩ : Shared).TypeIs (.ref q) "method" := ⟨_, hq, rfl⟩
  refine wpAny_bind (wpAny_specialOf hT me_call ?_)
  refine wpAny_bind (wpAny_rule (wpAny_bind (wpAny_newObj_type (wpAny_pure ⟨_, rfl, k⟩) (by size_fits))))
end
end Mine
namespace Mine
section
variable {prog : Program} {w : World} {A : Around} {E : Value → Shared → Prop} {h : Heap} {gs : Array GenState} {dr : Drawn} {tk : Nat} {os : OsState}
theorem r_truL {l : Addr} {vs : List Value} {Q : Bool → Shared → Prop} (hl : h.IsList l vs.toArray) (hsz : vs.length < 100000) (q : ∀ tk', Q (!vs.isEmpty) ⟨h, gs, dr, tk', os⟩) : wpAny (model prog w) A (truthy (.ref l)) Q E ⟨h, gs, dr, tk, os⟩ := by
  refine wpAny_truthy_list hl (by simp; (first | lia | omega)) ?_
  cases vs with
  | nil => simpa using q _
  | cons v vs => simpa using q _
end
end Mine
end

section
open PySem PySem.W PySem.Calls PyProof.Rows
namespace Mine
def isWs (c : Nat) : Bool := c == 10 || c == 9 || c == 13 || c == 32
def tokU : List Nat → List Nat → Option (List Nat × List Nat)
  | _, [] => none
  | acc, c :: r => if isWs c then some (acc, r) else if c = 92 then (match r with | [] => none | c' :: r' => tokU (acc ++ [c']) r') else tokU (acc ++ [c]) r
def tokQ : List Nat → List Nat → Option (List Nat × List Nat)
  | _, [] => none
  | acc, c :: r => if c = 34 then some (acc, r) else if c = 92 then (match r with | [] => none | c' :: r' => tokQ (acc ++ [c']) r') else tokQ (acc ++ [c]) r
def tok : List Nat → Option (List Nat × List Nat)
  | [] => some ([], [])
  | c :: r => if isWs c then tok r else if c = 34 then tokQ [] r else if c = 92 then (match r with | [] => none | c' :: r' => tokU [c'] r') else tokU [c] r
def stS (cs : List Nat) : Str := ⟨cs.toArray⟩

def citD (it q : Addr) : HD where
  fp := [it]
  P h := ∃ t, h.get? it = some (ciObj (.ref q) (.str "" t))
  st h h' e p := by
    obtain ⟨t, p1⟩ := p
    exact ⟨t, e it (by simp) _ p1⟩
  al h p b hb := by
    obtain ⟨t, p1⟩ := p
    cases List.mem_singleton.mp hb
    exact ⟨_, p1⟩

theorem r_iterC {w : World} {A : Around} {E : Value → Shared → Prop} {K : Frag} {g h : Heap} {O N : List HD} {gs : Array GenState} {dr : Drawn} {tk : Nat} {os : OsState} {q : Addr} {f x : Value} {t : Tok} {j : Nat} {Q : Value → Shared → Prop}
    (H : Led K g h O N) (hj : N[j]? = some (objD q (methodObj f x))) (k : ∀ it h' tk', Led K g h' O (N ++ [citD it q]) → Q (.ref it) ⟨h', gs, dr, tk', os⟩) :
    wpAny (model PG w) A (call (.builtin "iter") [.ref q, .str "" t]) Q E ⟨h, gs, dr, tk, os⟩ :=
  ci_make (H.at hj) (k _ _ _ (H.new (push_e _) ⟨_, Heap.get?_push_size _ rfl⟩ (by intro a ha; cases List.mem_singleton.mp ha; exact none_size h) (by simp [citD])))
theorem in_ws {prog : Program} {w : World} {A : Around} {E : Value → Shared → Prop} {s : Shared} {c : Nat} {t u : Tok} {Q : Value → Shared → Prop} (q : Q (.bool (isWs c)) s) :
    wpAny (model prog w) A (compareOp .In (.str (chS c) u) (.str "\n\t\u000d " t)) Q E s := by
  refine PyProof.Rows.in_str ?_
  rw [show chS c = (⟨#[c]⟩ : Str) from rfl, StrLaws.found_one]
  have : decide (c ∈ (Str.ofString "\n\t\u000d ").cps.toList) = isWs c := by
    rw [show (Str.ofString "\n\t\u000d ").cps.toList = [10, 9, 13, 32] from by decide]
    unfold isWs
    rw [Bool.eq_iff_iff]; simp [or_assoc]
  rw [this]; exact q
theorem chS_q : (Str.ofString "\"") = chS 34 := by decide
theorem chS_bs : (Str.ofString "\\") = chS 92 := by decide
theorem eq_chS {prog : Program} {w : World} {A : Around} {E : Value → Shared → Prop} {s : Shared} {c d : Nat} {t u : Tok} {x : Str} {Q : Value → Shared → Prop} (hx : x = chS d) (q : Q (.bool (decide (c = d))) s) :
    wpAny (model prog w) A (compareOp .Eq (.str (chS c) u) (.str x t)) Q E s := by
  subst hx
  refine PyProof.Rows.eq_str ?_
  rw [show (chS c == chS d) = decide (c = d) from by rw [Bool.eq_iff_iff]; simp [chS_eq]]
  exact q
theorem chS_ne (c : Nat) : ¬ chS c = "" := fun e => by
  have h1 : (chS c).cps.size = 1 := rfl
  have h2 : (Str.ofString "").cps.size = 0 := by decide
  rw [e, h2] at h1; cases h1
section
variable {w : World} {A : Around} {E : Value → Shared → Prop} {g h : Heap} {N : List HD} {gs : Array GenState} {dr : Drawn} {tk : Nat} {os : OsState} {a : LA} {pbk : List Str} {rest : List Nat} {T : Int} {it q : Addr} {j : Nat}
theorem new_apart {K : Frag} {O : List HD} {d e : HD} (H : Led K g h (d :: O) N) (hj : N[j]? = some e) {b : Addr} (hb : b ∈ e.fp) : b ∉ d.fp := by
  have hjj : (d :: O ++ N)[(d :: O).length + j]? = some e := by rw [List.getElem?_append_right (by (first | lia | omega)), Nat.add_sub_cancel_left]; exact hj
  exact fun hm => nodup_apart H.nd (i := 0) rfl hjj (by simp only [List.length_cons]; (first | lia | omega)) hm hb

set_option maxRecDepth 100000 in
theorem r_nextC {Q : Option Value → Shared → Prop} (H : Led (KK w) g h [lexD w a pbk rest T] N) (hj : N[j]? = some (citD it q)) {j2 : Nat} (hj2 : N[j2]? = some (objD q (methodObj (.ref 42) (.ref a.x)))) (hd : A.depth < 800) (hu : A.units < 800) (hA : A.handled = none) (hsz : rest.length < 5000) (hT : 0 ≤ T ∧ T < 100000)
    (k1 : ∀ c r, rest = c :: r → ∀ t h' tk', Led (KK w) g h' [lexD w a pbk r T] N → Q (some (.str (chS c) t)) ⟨h', gs, dr, tk', os⟩)
    (k0 : rest = [] → ∀ h' tk', Led (KK w) g h' [lexD w a pbk [] T] (N.eraseIdx j) → Q none ⟨h', gs, dr, tk', os⟩) :
    wpAny (model PG w) A (pyNext (.ref it)) Q E ⟨h, gs, dr, tk, os⟩ := by
  obtain ⟨t, hit⟩ := H.at hj
  have hq : h.get? q = some (methodObj (.ref 42) (.ref a.x)) := H.at hj2
  have n1 := new_apart H hj (b := it) (by simp [citD])
  have n2 := new_apart H hj2 (b := q) (by simp [objD])
  have hf : ∀ {h' : Heap}, Gd (KK w) h' → ∃ of fd, h'.get? 42 = some of ∧ of.data = .func fd := fun G => ⟨_, _, G.frag 42 _ rfl, rfl⟩
  obtain ⟨of, fd, hf1, hf2⟩ := hf H.gd
  refine ci_next hA hit hq hf1 hf2 (rc_call (H.calleeO (j := 0) rfl) (by show A.depth < 800; (first | lia | omega)) (by show A.units + 1 < 900; (first | lia | omega)) hsz hT ?_)
  intro h' tk' u H'
  have H2 := H.backO (j := 0) rfl (by rfl) H'
  simp only [List.set_cons_zero] at H2
  refine ⟨_, u, h', tk', rfl, rfl, H'.keep _ _ hit (by simpa [lexD] using n1), H'.keep _ _ hq (by simpa [lexD] using n2), hf H'.gd, ?_⟩
  cases rest with
  | nil =>
    rw [if_pos (by rfl)]
    intro h'' hk
    exact k0 rfl _ _ (H2.drop hj fun b o hb e => hk b o (fun e' => hb (by rw [e']; simp [citD])) e)
  | cons c r =>
    rw [if_neg (show ¬ hdS (c :: r) = "" from chS_ne c)]
    exact k1 c r rfl _ _ _ H2
end


theorem r_bmeth {w : World} {A : Around} {E : Value → Shared → Prop} {K : Frag} {h : Heap} {gs : Array GenState} {dr : Drawn} {tk : Nat} {os : OsState} {x dx C f : Addr} {es : List DictEntry} {n : Nat} {name : Str} {expr : Bool} {Q : Value → Shared → Prop}
    (X : K.In h) (hx : h.get? x = some (instObj C dx)) (hd : h.get? dx = some (dictOf es n)) (hga : findIn K (.ref C) "__getattribute__" = some (some (.builtin "object.__getattribute__")))
    (hf : findObj K C (some (dictOf es n)) name = some (.bind (.builtin "function.__get__") (.ref f))) (hk : findIn K (.ref C) "__getattr__" = some none) (ht : typeIn K (.ref f) = some (.type "function"))
    (q : ∀ tk', Q (.ref h.objs.size) ⟨h.push (methodObj (.ref f) (.ref x)), gs, dr, tk', os⟩) :
    wpAny (model PG w) A (getAttr (.ref x) name expr) Q E ⟨h, gs, dr, tk, os⟩ := by
  refine get_bind (s := ⟨h, gs, dr, tk, os⟩) X ⟨hx, rfl, rfl, hd⟩ hga hf hk (wpAny_call (fn_get (s := ⟨h, gs, dr, tk + 1, os⟩) X ht ?_))
  dsimp only
  rw [handedOut_of (by rfl)]
  exact wpAny_pure (q _)

section
variable {w : World} {A : Around} {E : Value → Shared → Prop} {h : Heap} {gs : Array GenState} {dr : Drawn} {tk : Nat} {os : OsState} {a : LA} {pbk : List Str} {rest : List Nat} {T : Int} {expr : Bool} {Q : Value → Shared → Prop}
theorem r_pbA (G : Gd (KK w) h) (L : LexP w a pbk rest T h) (q : ∀ tk', Q (.ref a.pb) ⟨h, gs, dr, tk', os⟩) : wpAny (model PG w) A (getAttr (.ref a.x) "pushback" expr) Q E ⟨h, gs, dr, tk, os⟩ := by
  obtain ⟨t1, t2, t3, t4, t5, t6, n, hdx⟩ := L.dx
  exact r_lattr (pbk := pbk) (rest := rest) (T := T) (v := .ref a.pb) G L.x hdx (by rfl) (by rfl) (by rfl) q
theorem r_wsA (G : Gd (KK w) h) (L : LexP w a pbk rest T h) (q : ∀ t tk', Q (.str "\n\t\u000d " t) ⟨h, gs, dr, tk', os⟩) : wpAny (model PG w) A (getAttr (.ref a.x) "whitespace" expr) Q E ⟨h, gs, dr, tk, os⟩ := by
  obtain ⟨t1, t2, t3, t4, t5, t6, n, hdx⟩ := L.dx
  exact r_lattr (pbk := pbk) (rest := rest) (T := T) (v := .str "\n\t\u000d " t5) G L.x hdx (by rfl) (by rfl) (by rfl) (q t5)
theorem r_lnA (G : Gd (KK w) h) (L : LexP w a pbk rest T h) (q : ∀ t tk', Q (.int (T - nls rest) t) ⟨h, gs, dr, tk', os⟩) : wpAny (model PG w) A (getAttr (.ref a.x) "lineno" expr) Q E ⟨h, gs, dr, tk, os⟩ := by
  obtain ⟨t1, t2, t3, t4, t5, t6, n, hdx⟩ := L.dx
  exact r_lattr (pbk := pbk) (rest := rest) (T := T) (v := .int (T - nls rest) t2) G L.x hdx (by rfl) (by rfl) (by rfl) (q t2)
theorem r_rcM {K' : Frag} {g : Heap} {O N : List HD} (H : Led (KK w) g h (lexD w a pbk rest T :: O) N) (q : ∀ m h' tk', Led (KK w) g h' (lexD w a pbk rest T :: O) (N ++ [objD m (methodObj (.ref 42) (.ref a.x))]) → Q (.ref m) ⟨h', gs, dr, tk', os⟩) :
    wpAny (model PG w) A (getAttr (.ref a.x) "_read_char" expr) Q E ⟨h, gs, dr, tk, os⟩ := by
  have L : LexP w a pbk rest T h := H.atO (j := 0) (d := lexD w a pbk rest T) rfl
  obtain ⟨t1, t2, t3, t4, t5, t6, n, hdx⟩ := L.dx
  exact r_bmeth H.gd.frag L.x hdx (by rfl) (by rfl) (by rfl) (by rfl) fun tk' => q _ _ _ (H.new (push_e _) (Heap.get?_push_size _ rfl) (by intro a ha; cases List.mem_singleton.mp ha; exact none_size h) (by simp [objD]))
end

theorem r_ldn {w : World} {A : Around} {E : Value → Shared → Prop} {K : Frag} {g h : Heap} {O N : List HD} {gs : Array GenState} {dr : Drawn} {tk : Nat} {os : OsState} {env : Env} {L : Addr} {lv : List (Str × Value)} {x : Str} {v : Value} {Q : Value → Shared → Prop} (hl : env.kindOf x = some .local) (hk : env.scope.kind = .function) (H : Led K g h O N) (hj : N[0]? = some (nsD L lv)) (hL : env.locals = L) (hv : lv.lookup x = some v)
    (q : Q v ⟨h, gs, dr, tk, os⟩) : wpAny (model PG w) A (loadName env x) Q E ⟨h, gs, dr, tk, os⟩ := by
  subst hL
  exact wpAny_loadName_local hk hl (H.at hj) hv q

end Mine
end
local macro_rules | `(tactic| walk_at "loadName") => `(tactic| (refine r_ldn (by rfl) (by rfl) (by assumption) (by rfl) (by rfl) (by first | rfl | assumption) ?_))
section
open PySem PySem.W PySem.Calls PyProof.Rows
namespace Mine
theorem r_iaddS {prog : Program} {w : World} {A : Around} {E : Value → Shared → Prop} {h : Heap} {gs : Array GenState} {dr : Drawn} {tk : Nat} {os : OsState} {x y : Str} {t u : Tok} {Q : Value → Shared → Prop} (hsz : x.length + y.length ≤ sizeLine) (q : ∀ t tk', Q (.str (x ++ y) t) ⟨h, gs, dr, tk', os⟩) :
    wpAny (model prog w) A (inplaceOp .Add (.str x t) (.str y u)) Q E ⟨h, gs, dr, tk, os⟩ := PyProof.Rows.iadd_str (fun t' tk' => q t' tk') hsz
theorem stS_len (cs : List Nat) : (stS cs).length = cs.length := by simp [stS, Str.length]
theorem r_lmethod {w : World} {A : Around} {E : Value → Shared → Prop} {h : Heap} {gs : Array GenState} {dr : Drawn} {tk : Nat} {os : OsState} {a : LA} {pbk : List Str} {rest : List Nat} {T : Int} {name : Str} {f : Addr} {pl : Sem Bool} {Q : Value × List Value → Shared → Prop}
    (G : Gd (KK w) h) (L : LexP w a pbk rest T h) (hf : findIn (KK w) (.ref 59) name = some (some (.ref f))) (ht : typeIn (KK w) (.ref f) = some (.type "function")) (hs : ∀ t1 t2 t3 t4 t5 t6 n, shadowIn (some (dictOf (lexEs w a (T - nls rest) t1 t2 t3 t4 t5 t6) n)) name = some false)
    (q : Q (.ref f, [.ref a.x]) ⟨h, gs, dr, tk, os⟩) : wpAny (model PG w) A (getMethod (.ref a.x) name pl) Q E ⟨h, gs, dr, tk, os⟩ := by
  obtain ⟨t1, t2, t3, t4, t5, t6, n, hdx⟩ := L.dx
  exact method_fn (s := ⟨h, gs, dr, tk, os⟩) G.frag ⟨L.x, rfl, rfl, hdx⟩ (by rfl) (by rfl) hf ht (hs t1 t2 t3 t4 t5 t6 n) q
theorem stS_one (c : Nat) : stS [c] = chS c := rfl
theorem chS_len (c : Nat) : (chS c).length = 1 := rfl

noncomputable def fnAt (w : World) (f : Nat) : Option FuncData := match (KK w).lookup f with
  | some ⟨_, _, .func fd, _⟩ => some fd
  | _ => none
noncomputable def innerQ (w : World) : Option Stmt := (fnAt w 49).bind fun fd => match fd.body with
  | .stmts [_, _, _, .For _ _ [_, .If _ [q] [_, _, _] _] _ _, _] => some q
  | _ => none
noncomputable def innerU (w : World) : Option Stmt := (fnAt w 49).bind fun fd => match fd.body with
  | .stmts [_, _, _, .For _ _ [_, .If _ [_] [_, _, u] _] _ _, _] => some u
  | _ => none
theorem stS_app (cs : List Nat) (c : Nat) : stS cs ++ chS c = stS (cs ++ [c]) := by
  apply Str.ext'
  rw [Str.cps_append]
  simp [stS, chS]

set_option maxRecDepth 100000 in
set_option maxHeartbeats 8000000 in
theorem qLoop {w : World} {A : Around} {E : Value → Shared → Prop} {g h : Heap} {gs : Array GenState} {dr : Drawn} {tk : Nat} {os : OsState} {Q : Flow → Shared → Prop} {a : LA} {r rest' wd acc : List Nat} {T : Int} {L m it : Addr} {lv : List (Str × Value)} {t0 : Tok} {stm : Stmt} {fd : FuncData}
    (hst : innerQ w = some stm) (hfd : fnAt w 49 = some fd) (hd : A.depth < 790) (hu : A.units < 790) (hA : A.handled = none) (hT : 0 ≤ T ∧ T < 100000)
    (H : Led (KK w) g h [lexD w a [] r T] [nsD L lv, objD m (methodObj (.ref 42) (.ref a.x)), citD it m]) (e1 : lv.lookup ("self" : Str) = some (.ref a.x)) (e2 : lv.lookup ("token" : Str) = some (.str (stS acc) t0)) (e3 : lv.lookup ("fiter" : Str) = some (.ref it))
    (hs : r.length < 5000) (hs2 : acc.length + r.length < 9000) (ht : tokQ acc r = some (wd, rest'))
    (q : ∀ t h' tk', Led (KK w) g h' [lexD w a [] rest' T] [] → Q (.ret (.str (stS wd) t)) ⟨h', gs, dr, tk', os⟩) :
    wpAny (model PG w) A (exec stm (callEnv fd L 49)) Q E ⟨h, gs, dr, tk, os⟩ := by
  have es := Option.some.inj (show some _ = some stm from hst)
  have ef := Option.some.inj (show some _ = some fd from hfd)
  subst es ef
  refine r_for (by intro _; rfl) ?_
  walk1
  obtain ⟨tt, hit5⟩ : ∃ t, h.get? it = some (ciObj (.ref m) (.str "" t)) := H.at (j := 2) (d := citD it m) rfl
  refine ci_iter hit5 ?_
  obtain ⟨I1, hI1⟩ : ∃ I : Nat → Heap → Prop, I = (fun n h' => ∃ r lv acc t0, n = r.length + 1 ∧ Led (KK w) g h' [lexD w a [] r T] [nsD L lv, objD m (methodObj (.ref 42) (.ref a.x)), citD it m] ∧ lv.lookup ("self" : Str) = some (.ref a.x) ∧ lv.lookup ("token" : Str) = some (.str (stS acc) t0) ∧
    lv.lookup ("fiter" : Str) = some (.ref it) ∧ r.length < 5000 ∧ acc.length + r.length < 9000 ∧ tokQ acc r = some (wd, rest')) := ⟨_, rfl⟩
  refine ⟨I1, r.length + 1, _, _, rfl, I_mk hI1 ⟨r, _, _, _, rfl, H, e1, e2, e3, hs, hs2, ht⟩, by intro _; rfl, ?_⟩
  clear hit5 H e1 e2 e3 hs hs2 ht
  intro E2 n h6 tk6 hJ1
  refine ex4_8 (I_out hI1 hJ1) ?_
  intro r lv acc t0 hn H6 e1 e2 e3 hs hs2 ht6
  clear hJ1
  refine r_nextC (j := 2) (j2 := 1) H6 (by rfl) (by rfl) (by (first | lia | omega)) (by (first | lia | omega)) hA hs hT ?_ ?_
  · intro c r' hr t7 h7 tk7 H7
    subst hr
    unfold tokQ at ht6
    simp only [List.length_cons] at hn hs hs2
    repeat' walk1
    · rename_i h8 tk8 H8 _ _ hc
      have hc : c = 34 := by rw [chS_q] at hc; exact chS_eq.mp (eq_of_beq hc)
      rw [if_pos hc] at ht6
      obtain ⟨rfl, rfl⟩ := Prod.mk.inj (Option.some.inj ht6)
      exact q _ _ _ (H8.sub (List.nil_sublist _))
    · rename_i h8 tk8 H8 _ _ hc _ _ hb
      have hc : ¬ c = 34 := fun e => by rw [e, ← chS_q] at hc; simp at hc
      have hb : c = 92 := by rw [chS_bs] at hb; exact chS_eq.mp (eq_of_beq hb)
      rw [if_neg hc, if_pos hb] at ht6
      cases r' with
      | nil => cases ht6
      | cons c2 r2 =>
        simp only [List.length_cons] at hn hs hs2
        dsimp only at ht6
        have L8 : LexP w a [] (c2 :: r2) T h8 := H8.atO (j := 0) (d := lexD w a [] (c2 :: r2) T) rfl
        refine r_lmethod (f := 42) H8.gd L8 (by rfl) (by rfl) (by intros; rfl) ?_
        refine callWith_K0 (K := KK w) H8.gd.frag (by rfl) ?_
        refine wpAny_call (rc_call (H8.calleeO (j := 0) rfl) (by (first | lia | omega)) (by (first | lia | omega)) (by simp; (first | lia | omega)) hT ?_); intro h9 tk9 t9 H9
        have H10 := H8.backO (j := 0) rfl (by rfl) H9
        simp only [List.set_cons_zero, List.tail_cons] at H10
        dsimp only [hdS]
        repeat' walk1
        refine r_iaddS (by rw [stS_len, chS_len]; simp [sizeLine]; (first | lia | omega)) ?_; intro t11 tk11
        rw [stS_app]
        repeat' walk1
        exact Nx.mk (by (first | lia | omega)) (I_mk hI1 ⟨r2, _, acc ++ [c2], _, rfl, by assumption, by exact e1, by rfl, by exact e3, by (first | lia | omega), by simp; (first | lia | omega), ht6⟩)
    · rename_i h8 tk8 H8 _ _ hc _ _ hb
      have hc : ¬ c = 34 := fun e => by rw [e, ← chS_q] at hc; simp at hc
      have hb : ¬ c = 92 := fun e => by rw [e, ← chS_bs] at hb; simp at hb
      rw [if_neg hc, if_neg hb] at ht6
      refine r_iaddS (by rw [stS_len, chS_len]; simp [sizeLine]; (first | lia | omega)) ?_; intro t11 tk11
      rw [stS_app]
      repeat' walk1
      exact Nx.mk (by (first | lia | omega)) (I_mk hI1 ⟨r', _, acc ++ [c], _, rfl, by assumption, by exact e1, by rfl, by exact e3, by (first | lia | omega), by simp; (first | lia | omega), ht6⟩)
  · intro hr h7 tk7 H7
    subst hr
    unfold tokQ at ht6
    cases ht6
set_option maxRecDepth 100000 in
set_option maxHeartbeats 8000000 in
theorem uLoop {w : World} {A : Around} {E : Value → Shared → Prop} {g h : Heap} {gs : Array GenState} {dr : Drawn} {tk : Nat} {os : OsState} {Q : Flow → Shared → Prop} {a : LA} {r rest' wd acc : List Nat} {T : Int} {L m it : Addr} {lv : List (Str × Value)} {t0 : Tok} {stm : Stmt} {fd : FuncData}
    (hst : innerU w = some stm) (hfd : fnAt w 49 = some fd) (hd : A.depth < 790) (hu : A.units < 790) (hA : A.handled = none) (hT : 0 ≤ T ∧ T < 100000)
    (H : Led (KK w) g h [lexD w a [] r T] [nsD L lv, objD m (methodObj (.ref 42) (.ref a.x)), citD it m]) (e1 : lv.lookup ("self" : Str) = some (.ref a.x)) (e2 : lv.lookup ("token" : Str) = some (.str (stS acc) t0)) (e3 : lv.lookup ("fiter" : Str) = some (.ref it))
    (hs : r.length < 5000) (hs2 : acc.length + r.length < 9000) (ht : tokU acc r = some (wd, rest'))
    (q : ∀ t h' tk', Led (KK w) g h' [lexD w a [] rest' T] [] → Q (.ret (.str (stS wd) t)) ⟨h', gs, dr, tk', os⟩) :
    wpAny (model PG w) A (exec stm (callEnv fd L 49)) Q E ⟨h, gs, dr, tk, os⟩ := by
  have es := Option.some.inj (show some _ = some stm from hst)
  have ef := Option.some.inj (show some _ = some fd from hfd)
  subst es ef
  refine r_for (by intro _; rfl) ?_
  walk1
  obtain ⟨tt, hit5⟩ : ∃ t, h.get? it = some (ciObj (.ref m) (.str "" t)) := H.at (j := 2) (d := citD it m) rfl
  refine ci_iter hit5 ?_
  obtain ⟨I2, hI2⟩ : ∃ I : Nat → Heap → Prop, I = (fun n h' => ∃ r lv acc t0, n = r.length + 1 ∧ Led (KK w) g h' [lexD w a [] r T] [nsD L lv, objD m (methodObj (.ref 42) (.ref a.x)), citD it m] ∧ lv.lookup ("self" : Str) = some (.ref a.x) ∧ lv.lookup ("token" : Str) = some (.str (stS acc) t0) ∧
    lv.lookup ("fiter" : Str) = some (.ref it) ∧ r.length < 5000 ∧ acc.length + r.length < 9000 ∧ tokU acc r = some (wd, rest')) := ⟨_, rfl⟩
  refine ⟨I2, r.length + 1, _, _, rfl, I_mk hI2 ⟨r, _, _, _, rfl, H, e1, e2, e3, hs, hs2, ht⟩, by intro _; rfl, ?_⟩
  clear hit5 H e1 e2 e3 hs hs2 ht
  intro E2 n h6 tk6 hJ2
  refine ex4_8 (I_out hI2 hJ2) ?_
  intro r lv acc t0 hn H6 e1 e2 e3 hs hs2 ht6
  clear hJ2
  refine r_nextC (j := 2) (j2 := 1) H6 (by rfl) (by rfl) (by (first | lia | omega)) (by (first | lia | omega)) hA hs hT ?_ ?_
  · intro c r' hr t7 h7 tk7 H7
    subst hr
    unfold tokU at ht6
    simp only [List.length_cons] at hn hs hs2
    repeat' walk1
    rename_i h8 tk8 H8
    have L8 : LexP w a [] r' T h8 := H8.atO (j := 0) (d := lexD w a [] r' T) rfl
    refine r_wsA H8.gd L8 ?_; intro t9 tk9
    refine in_ws ?_
    by_cases hw : isWs c = true
    · rw [hw] at ht6 ⊢
      rw [if_pos rfl] at ht6
      repeat' walk1
      obtain ⟨rfl, rfl⟩ := Prod.mk.inj (Option.some.inj ht6)
      exact q _ _ _ (H8.sub (List.nil_sublist _))
    · rw [Bool.not_eq_true] at hw
      rw [hw] at ht6 ⊢
      rw [if_neg Bool.false_ne_true] at ht6
      repeat' walk1
      · rename_i hb
        have hb : c = 92 := by rw [chS_bs] at hb; exact chS_eq.mp (eq_of_beq hb)
        rw [if_pos hb] at ht6
        cases r' with
        | nil => cases ht6
        | cons c2 r2 =>
          simp only [List.length_cons] at hn hs hs2
          dsimp only at ht6
          refine r_lmethod (f := 42) H8.gd L8 (by rfl) (by rfl) (by intros; rfl) ?_
          refine callWith_K0 (K := KK w) H8.gd.frag (by rfl) ?_
          refine wpAny_call (rc_call (H8.calleeO (j := 0) rfl) (by (first | lia | omega)) (by (first | lia | omega)) (by simp; (first | lia | omega)) hT ?_); intro h9 tk9 t9 H9
          have H10 := H8.backO (j := 0) rfl (by rfl) H9
          simp only [List.set_cons_zero, List.tail_cons] at H10
          dsimp only [hdS]
          repeat' walk1
          refine r_iaddS (by rw [stS_len, chS_len]; simp [sizeLine]; (first | lia | omega)) ?_; intro t11 tk11
          rw [stS_app]
          repeat' walk1
          exact Nx.mk (by (first | lia | omega)) (I_mk hI2 ⟨r2, _, acc ++ [c2], _, rfl, by assumption, by exact e1, by rfl, by exact e3, by (first | lia | omega), by simp; (first | lia | omega), ht6⟩)
      · rename_i hb
        have hb : ¬ c = 92 := fun e => by rw [e, ← chS_bs] at hb; simp at hb
        rw [if_neg hb] at ht6
        refine r_iaddS (by rw [stS_len, chS_len]; simp [sizeLine]; (first | lia | omega)) ?_; intro t11 tk11
        rw [stS_app]
        repeat' walk1
        exact Nx.mk (by (first | lia | omega)) (I_mk hI2 ⟨r', _, acc ++ [c], _, rfl, by assumption, by exact e1, by rfl, by exact e3, by (first | lia | omega), by simp; (first | lia | omega), ht6⟩)
  · intro hr h7 tk7 H7
    subst hr
    unfold tokU at ht6
    cases ht6
set_option maxRecDepth 100000 in
set_option maxHeartbeats 8000000 in
theorem gt_call {w : World} {A : Around} {h : Heap} {gs : Array GenState} {dr : Drawn} {tk : Nat} {os : OsState} {R : Result → Shared → Prop} {a : LA} {rest rest' : List Nat} {wd : List Nat} {T : Int}
    (H : Led (KK w) h h [lexD w a [] rest T] []) (hd : A.depth < 700) (hu : A.units < 700) (hA : A.handled = none) (hsz : rest.length < 5000) (hT : 0 ≤ T ∧ T < 100000) (ht : tok rest = some (wd, rest'))
    (k : ∀ h' tk' t, Led (KK w) h h' [lexD w a [] rest' T] [] → R (.ok (.ret (.str (stS wd) t))) ⟨h', gs, dr, tk', os⟩) :
    codeAny (model PG w) A (.call (.ref 49) ⟨[.ref a.x], []⟩) R ⟨h, gs, dr, tk, os⟩ := by
  refine r_enter (lv := [(("self" : Str), .ref a.x)]) H (Nat.lt_of_lt_of_le hd (by decide)) rfl rfl rfl rfl rfl rfl rfl rfl rfl rfl ?_
  intro E' L h₁ tk₁ H1
  have L1 : LexP w a [] rest T h₁ := H1.atO (j := 0) (d := lexD w a [] rest T) rfl
  obtain ⟨vs, hpb, hpp⟩ := L1.pb
  cases hpp
  repeat' walk1
  refine r_pbA H1.gd L1 ?_; intro tk2
  refine r_truL hpb.isList (by simp) ?_; intro tk3
  repeat' walk1
  refine r_rcM (K' := KK w) (by assumption) ?_; intro m h3 tk3 H3
  simp only [List.cons_append, List.nil_append] at H3
  repeat' walk1
  refine r_iterC (j := 1) H3 (by rfl) ?_; intro it h4 tk4 H4
  simp only [List.cons_append, List.nil_append] at H4
  repeat' walk1
  refine r_for (by intro _; rfl) ?_
  repeat' walk1
  rename_i h5 tk5 H5
  obtain ⟨tt, hit5⟩ : ∃ t, h5.get? it = some (ciObj (.ref m) (.str "" t)) := H5.at (j := 2) (d := citD it m) rfl
  refine ci_iter hit5 ?_
  clear H4 H3 H1 L1 hpb hit5
  obtain ⟨I3, hI3⟩ : ∃ I : Nat → Heap → Prop, I = (fun n h' => ∃ r lv t0, n = r.length + 1 ∧ Led (KK w) h h' [lexD w a [] r T] [nsD L lv, objD m (methodObj (.ref 42) (.ref a.x)), citD it m] ∧ lv.lookup ("self" : Str) = some (.ref a.x) ∧ lv.lookup ("token" : Str) = some (.str "" t0) ∧
    lv.lookup ("fiter" : Str) = some (.ref it) ∧ r.length < 5000 ∧ tok r = some (wd, rest')) := ⟨_, rfl⟩
  refine ⟨I3, rest.length + 1, _, _, rfl, I_mk hI3 ⟨rest, _, _, rfl, H5, rfl, rfl, rfl, hsz, ht⟩, by intro _; rfl, ?_⟩
  intro E2 n h6 tk6 hJ3
  refine ex3_7 (I_out hI3 hJ3) ?_
  intro r lv t0 hn H6 e1 e2 e3 hs ht6
  clear hJ3
  clear H5
  have hdd : (A.deeper (callEnv (default : FuncData) L 49)).depth < 800 := by rw [deeper_depth']; (first | lia | omega)
  refine r_nextC (j := 2) (j2 := 1) H6 (by rfl) (by rfl) (by rw [deeper_depth']; (first | lia | omega)) (by rw [deeper_units']; (first | lia | omega)) hA hs hT ?_ ?_
  · intro c r' hr t7 h7 tk7 H7
    subst hr
    repeat' walk1
    rename_i h8 tk8 H8
    have L8 : LexP w a [] r' T h8 := H8.atO (j := 0) (d := lexD w a [] r' T) rfl
    refine r_wsA H8.gd L8 ?_; intro t9 tk9
    refine in_ws ?_
    unfold tok at ht6
    by_cases hw : isWs c = true
    · rw [hw] at ht6 ⊢
      rw [if_pos rfl] at ht6
      repeat' walk1
      exact Nx.mk (by simp at hn ⊢; (first | lia | omega)) (I_mk hI3 ⟨r', _, _, rfl, by assumption, by exact e1, by exact e2, by exact e3, by simp at hs; (first | lia | omega), ht6⟩)
    · rw [Bool.not_eq_true] at hw
      rw [hw] at ht6 ⊢
      rw [if_neg Bool.false_ne_true] at ht6
      repeat' walk1
      · rename_i hc
        have hc : c = 34 := by rw [chS_q] at hc; exact chS_eq.mp (eq_of_beq hc)
        rw [if_pos hc] at ht6
        simp only [List.length_cons] at hs
        refine qLoop (acc := []) rfl rfl (by rw [deeper_depth']; (first | lia | omega)) (by rw [deeper_units']; (first | lia | omega)) hA hT H8 (by exact e1) (by exact e2) (by exact e3) (by (first | lia | omega)) (by simp; (first | lia | omega)) ht6 ?_
        intro t10 h10 tk10 H10
        exact k _ _ _ H10
      · rename_i hc _ _ hb
        have hc : ¬ c = 34 := fun e => by rw [e, ← chS_q] at hc; simp at hc
        have hb : c = 92 := by rw [chS_bs] at hb; exact chS_eq.mp (eq_of_beq hb)
        rw [if_neg hc, if_pos hb] at ht6
        cases r' with
        | nil => cases ht6
        | cons c2 r2 =>
          simp only [List.length_cons] at hs
          dsimp only at ht6
          refine r_lmethod (f := 42) H8.gd L8 (by rfl) (by rfl) (by intros; rfl) ?_
          refine callWith_K0 (K := KK w) H8.gd.frag (by rfl) ?_
          refine wpAny_call (rc_call (H8.calleeO (j := 0) rfl) (by rw [deeper_depth']; (first | lia | omega)) (by rw [deeper_units']; (first | lia | omega)) (by simp; (first | lia | omega)) hT ?_); intro h9 tk9 t9 H9
          have H10 := H8.backO (j := 0) rfl (by rfl) H9
          simp only [List.set_cons_zero, List.tail_cons] at H10
          dsimp only [hdS]
          repeat' walk1
          refine r_iaddS (by rw [chS_len]; decide) ?_; intro t11 tk11
          rw [show ("" : Str) ++ chS c2 = stS [c2] from stS_app [] c2]
          repeat' walk1
          rename_i h12 tk12 H12
          refine uLoop (acc := [c2]) rfl rfl (by rw [deeper_depth']; (first | lia | omega)) (by rw [deeper_units']; (first | lia | omega)) hA hT H12 (by exact e1) (by rfl) (by exact e3) (by (first | lia | omega)) (by simp; (first | lia | omega)) ht6 ?_
          intro t10 h10 tk10 H10
          exact k _ _ _ H10
      · rename_i hc _ _ hb
        have hc : ¬ c = 34 := fun e => by rw [e, ← chS_q] at hc; simp at hc
        have hb : ¬ c = 92 := fun e => by rw [e, ← chS_bs] at hb; simp at hb
        rw [if_neg hc, if_neg hb] at ht6
        simp only [List.length_cons] at hs
        refine r_iaddS (by rw [chS_len]; decide) ?_; intro t11 tk11
        rw [show ("" : Str) ++ chS c = stS [c] from stS_app [] c]
        repeat' walk1
        rename_i h12 tk12 H12
        refine uLoop (acc := [c]) rfl rfl (by rw [deeper_depth']; (first | lia | omega)) (by rw [deeper_units']; (first | lia | omega)) hA hT H12 (by exact e1) (by rfl) (by exact e3) (by (first | lia | omega)) (by simp; (first | lia | omega)) ht6 ?_
        intro t10 h10 tk10 H10
        exact k _ _ _ H10
  · intro hr h7 tk7 H7
    subst hr
    unfold tok at ht6
    obtain ⟨rfl, rfl⟩ := Prod.mk.inj (Option.some.inj ht6)
    repeat' walk1
    exact k _ _ _ (H7.sub (List.nil_sublist _))
end Mine
end

section
open PySem PySem.W PySem.Calls PyProof.Rows
namespace Mine

theorem Paired.cons_inv {α β : Type} {F : α → β → Prop} {b : β} {l₁ : List α} {l₂ : List β} (h : Paired F l₁ (b :: l₂)) : ∃ a l, l₁ = a :: l ∧ F a b ∧ Paired F l l₂ := by
  cases h with | cons h t => exact ⟨_, _, rfl, h, t⟩

theorem r_callB {prog : Program} {w : World} {A : Around} {E : Value → Shared → Prop} {env : Env} {id : String} {pos : Pos} {first : List Value} {e : PySem.Expr} {Q : Value → Shared → Prop} {s : Shared}
    (he : backTo pos (starEach [e] env) = [(false, eval e env)]) (hq : wpAny (model prog w) A (eval e env) (fun v s₁ => wpAny (model prog w) A (call (.builtin id) (first ++ [v])) Q E s₁) E s) :
    wpAny (model prog w) A (callWith pos (.builtin id) first (backTo pos (starEach [e] env)) []) Q E s := by
  rw [he]
  exact Calls.callWith_builtin rfl (Calls.evalArgs_plain (Calls.spliced_cons (wpAny_mono hq (fun y s₂ h₂ => Calls.spliced_nil h₂) fun _ _ e => e)))

theorem r_pop0 {prog : Program} {w : World} {A : Around} {E : Value → Shared → Prop} {h : Heap} {gs : Array GenState} {dr : Drawn} {tk : Nat} {os : OsState} {env : Env} {l : Addr} {vs : List Value} {v : Value} {pos : Pos} {e : PySem.Expr} {Q : Value → Shared → Prop}
    (he : backTo pos (starEach [e] env) = [(false, eval e env)])
    (hq : wpAny (model prog w) A (eval e env) (fun z s₁ => ∃ u h₁ tk₁, z = .int 0 u ∧ s₁ = ⟨h₁, gs, dr, tk₁, os⟩ ∧ h₁.PlainList l (v :: vs).toArray ∧ vs.length < 10000 ∧ ∀ h', h'.PlainList l vs.toArray → Heap.SameBut l h₁ h' → Q v ⟨h', gs, dr, tk₁, os⟩) E ⟨h, gs, dr, tk, os⟩) :
    wpAny (model prog w) A (callWith pos (.builtin "list.pop") [.ref l] (backTo pos (starEach [e] env)) []) Q E ⟨h, gs, dr, tk, os⟩ := by
  rw [he]
  exact w_pop0 hq

set_option maxRecDepth 100000 in
set_option maxHeartbeats 8000000 in
theorem gp_call {w : World} {A : Around} {h : Heap} {gs : Array GenState} {dr : Drawn} {tk : Nat} {os : OsState} {R : Result → Shared → Prop} {a : LA} {rest : List Nat} {y : Str} {ys : List Str} {T : Int}
    (H : Led (KK w) h h [lexD w a (y :: ys) rest T] []) (hd : A.depth < 700) (hu : A.units < 700) (hsz : ys.length < 5000)
    (k : ∀ h' tk' t, Led (KK w) h h' [lexD w a ys rest T] [] → R (.ok (.ret (.str y t))) ⟨h', gs, dr, tk', os⟩) :
    codeAny (model PG w) A (.call (.ref 49) ⟨[.ref a.x], []⟩) R ⟨h, gs, dr, tk, os⟩ := by
  refine r_enter (lv := [(("self" : Str), .ref a.x)]) H (Nat.lt_of_lt_of_le hd (by decide)) rfl rfl rfl rfl rfl rfl rfl rfl rfl rfl ?_
  intro E' L h₁ tk₁ H1
  have L1 : LexP w a (y :: ys) rest T h₁ := H1.atO (j := 0) (d := lexD w a (y :: ys) rest T) rfl
  obtain ⟨vs0, hpb, hpp⟩ := L1.pb
  obtain ⟨v, vs, rfl, ⟨t, rfl⟩, hp⟩ := Paired.cons_inv hpp
  have hlen := hp.length
  repeat' walk1
  refine r_pbA H1.gd L1 ?_; intro tk2
  refine r_truL hpb.isList (by simp; (first | lia | omega)) ?_; intro tk3
  rw [if_pos (by rfl)]
  repeat' walk1
  refine r_pbA H1.gd L1 ?_; intro tk4
  refine r_lmeth hpb PySem.F.slot_list_pop PySem.F.type_list_pop ?_
  refine r_pop0 (v := .str y t) (vs := vs) (by rfl) ?_
  walk1
  refine ⟨_, _, _, rfl, rfl, hpb, by (first | lia | omega), ?_⟩
  intro h5 hl5 hs5
  have L5 : LexP w a ys rest T h5 := L1.setPb (lex_nd H1) (fun b o hb e => hs5.extBut b o hb e) ⟨vs, hl5, hp⟩
  have H5 := H1.modO (j := 0) (d' := lexD w a ys rest T) rfl rfl (fun b o hb e => hs5.extBut b o (fun q => hb (by rw [q]; simp [lexD])) e) L5
  simp only [List.set_cons_zero] at H5
  exact k _ _ _ (H5.sub (List.nil_sublist _))

set_option maxRecDepth 100000 in
set_option maxHeartbeats 8000000 in
theorem pt_call {w : World} {A : Around} {h : Heap} {gs : Array GenState} {dr : Drawn} {tk : Nat} {os : OsState} {R : Result → Shared → Prop} {a : LA} {rest : List Nat} {y : Str} {t : Tok} {ys : List Str} {T : Int}
    (H : Led (KK w) h h [lexD w a ys rest T] []) (hd : A.depth < 700) (hu : A.units < 700) (hsz : ys.length < 5000)
    (k : ∀ h' tk', Led (KK w) h h' [lexD w a (ys ++ [y]) rest T] [] → R (.ok (.ret .none)) ⟨h', gs, dr, tk', os⟩) :
    codeAny (model PG w) A (.call (.ref 56) ⟨[.ref a.x, .str y t], []⟩) R ⟨h, gs, dr, tk, os⟩ := by
  refine r_enter (lv := [(("token" : Str), .str y t), (("self" : Str), .ref a.x)]) H (Nat.lt_of_lt_of_le hd (by decide)) rfl rfl rfl rfl rfl rfl rfl rfl rfl rfl ?_
  intro E' L h₁ tk₁ H1
  have L1 : LexP w a ys rest T h₁ := H1.atO (j := 0) (d := lexD w a ys rest T) rfl
  obtain ⟨vs, hpb, hp⟩ := L1.pb
  have hlen := hp.length
  repeat' walk1
  refine r_pbA H1.gd L1 ?_; intro tk2
  refine r_lmeth hpb PySem.F.slot_list_append PySem.F.type_list_append ?_
  refine r_callB (by rfl) ?_
  walk1
  refine w_app hpb (by (first | lia | omega)) ?_; intro h5 hl5 hs5
  have L5 : LexP w a (ys ++ [y]) rest T h5 := L1.setPb (lex_nd H1) (fun b o hb e => hs5.extBut b o hb e) ⟨_, hl5, Paired.app hp (.cons ⟨t, rfl⟩ .nil)⟩
  have H5 := H1.modO (j := 0) (d' := lexD w a (ys ++ [y]) rest T) rfl rfl (fun b o hb e => hs5.extBut b o (fun q => hb (by rw [q]; simp [lexD])) e) L5
  simp only [List.set_cons_zero] at H5
  repeat' walk1
  exact k _ _ (H5.sub (List.nil_sublist _))
end Mine
end

section
open PySem PySem.W PySem.Calls PyProof.Rows Builtin Builtin.ObjectAttr
namespace Mine
theorem slot_fn_sa : Slot "function" "__setattr__" "object.__setattr__" :=
  .of (owner := "object") (n := "__setattr__") (by rw [typeLookup_type, builtinLookup_eq_fast]; kernel_rfl) (by decide +kernel) (by decide +kernel) (by decide +kernel)
    (by first | exact .inl (by decide +kernel) | exact .inr (by decide +kernel)) (by rw [isSubtype_type]; kernel_rfl)
theorem fn_mro : mroOf (.type "function") = pure [.type "function", .type "object"] := by kernel_rfl
theorem fn_pass (self : Value) : refuseLoop self "__setattr__" [.type "function", .type "object"] = pure () := by kernel_rfl

section
variable {prog : Program} {w : World} {A : Around} {E : Value → Shared → Prop} {h : Heap} {gs : Array GenState} {dr : Drawn} {tk : Nat} {os : OsState}
theorem r_fset {f : Addr} {fda : FuncData} {name : Str} {v : Value} {Q : Unit → Shared → Prop}
    (hf : h.get? f = some { cls := .type "function", data := .func fda }) (hr : typeLookup (.type "function") name = pure none)
    (q : ∀ d t h' tk', h.get? d = none → h'.get? d = some (dictOf [⟨PyData.keyHash w.params name, .str name t, v⟩] 1) → h'.get? f = some { cls := .type "function", dict := some d, data := .func fda } →
      (∀ b o, b ≠ f → h.get? b = some o → h'.get? b = some o) → Q () ⟨h', gs, dr, tk', os⟩) :
    wpAny (model prog w) A (setAttr (.ref f) name v) Q E ⟨h, gs, dr, tk, os⟩ := by
  have hT : (⟨h, gs, dr, tk + 1, os⟩ : Shared).TypeIs (.ref f) "function" := ⟨_, hf, rfl⟩
  have T0 : Looks (model prog w) h (typeOf (.ref f)) (.type "function") := (Looks.ld hf).andThen .now
  unfold setAttr
  refine wpAny_bind (wpAny_mkText (wpAny_bind (wpAny_callSpecial?_slot (name := Str.ofString "__setattr__") hT slot_fn_sa (wpAny_call_entry slot_fn_sa hT PySem.F.store_object.entry ?_ (PySem.F.store_object.args _ _ _)))))
  rw [osa_eq, refuse_eq]
  refine wpAny_bind (wpAny_bind (T0.here (wpAny_bind ((Looks.of_pure fn_mro).here ?_))))
  rw [fn_pass]
  refine wpAny_pure (wpAny_bind (T0.here (wpAny_bind ((Looks.of_pure hr).here (wpAny_bind (wpAny_pure ?_))))))
  show wpAny _ _ (storeInOwnDict (.ref f) (.type "function") (.str name tk) name v false) _ _ _
  unfold storeInOwnDict
  refine wpAny_bind (wpAny_of_eq (a := ()) (by kernel_rfl) ?_)
  refine wpAny_bind ?_
  unfold ownDictForStores instanceDict
  refine wpAny_bind (wpAny_loadPart hf ?_)
  show wpAny _ _ (alloc { cls := .type "dict", data := .dict #[] } >>= fun d => update f (fun o => { o with dict := some d }) >>= fun _ => dictMade (.type "function") f d) _ _ _
  refine wpAny_bind (wpAny_alloc (wpAny_bind ?_))
  have hf1 : (h.push { cls := .type "dict", data := .dict #[] }).get? f = some { cls := .type "function", data := .func fda } := Heap.get?_push_of_some _ hf
  refine wpAny_update hf1 ?_
  refine wpAny_of_eq (a := some h.objs.size) (by kernel_rfl) ?_
  dsimp only
  generalize hg : (h.push { cls := .type "dict", data := .dict #[] }).update f (fun o => { o with dict := some h.objs.size }) = h2
  have hne : f ≠ h.objs.size := Nat.ne_of_lt (Heap.lt_size hf)
  have hf2 : h2.get? f = some { cls := .type "function", dict := some h.objs.size, data := .func fda } := by rw [← hg]; exact Heap.get?_update_self _ hf1 rfl
  have hd2 : h2.get? h.objs.size = some (dictOf [] 0) := by
    rw [← hg, Heap.get?_update_other _ _ hne]; exact Heap.get?_push_size _ rfl
  have hk2 : ∀ b o, b ≠ f → h.get? b = some o → h2.get? b = some o := fun b o hb e => by
    rw [← hg, Heap.get?_update_other _ _ (Ne.symm hb)]; exact Heap.get?_push_of_some _ e
  have pn : Obj.putName name (PyData.keyHash w.params name) (.str name (tk + 1)) v (dictOf [] 0) = dictOf [⟨PyData.keyHash w.params name, .str name (tk + 1), v⟩] 1 := by rw [putName_dict]; rfl
  have D' : (h2.update h.objs.size (Obj.putName name (PyData.keyHash w.params name) (.str name (tk + 1)) v)).get? h.objs.size = some (dictOf [⟨PyData.keyHash w.params name, .str name (tk + 1), v⟩] 1) := by
    rw [← pn]; exact Heap.get?_update_self _ hd2 (by rw [pn]; rfl)
  unfold storeInDict
  refine wpAny_bind (wpAny_pure (wpAny_bind ?_))
  unfold nsSet
  refine wpAny_bind (wpAny_bind (wpAny_askSetting (wpAny_pure (wpAny_bind (wpAny_mkText (wpAny_bind (wpAny_loadPart hd2 ?_)))))))
  dsimp only [dictOf]
  rw [aRefKeyMayBeTheName_at, List.any_toArray, List.any_toArray, List.any_nil, List.any_nil, Bool.and_false]
  refine wpAny_updatePart hd2 ?_
  refine wpAny_bind (wpAny_lookBehind D' (pastItsLine_dict (by rw [List.size_toArray, sizeLine_eq]; simp)) ?_)
  refine wpAny_pure ⟨_, rfl, wpAny_pure ?_⟩
  refine q h.objs.size (tk + 1) _ _ (none_size h) D' ?_ (fun b o hb e => ?_)
  · rw [Heap.get?_update_other _ _ (Ne.symm hne)]; exact hf2
  · rw [Heap.get?_update_other _ _ (Ne.symm (Nat.ne_of_lt (Heap.lt_size e)))]; exact hk2 b o hb e
end
end Mine
end

section
open PySem PySem.W PySem.Calls PyProof.Rows
namespace Mine

end Mine
end
local macro_rules | `(tactic| walk_at "exec Assign") => `(tactic| (with_reducible refine plainObj_wpAny_Assign_Attribute ?_ (by with_unfolding_all rfl)))
section
open PySem PySem.W PySem.Calls PyProof.Rows
namespace Mine
theorem Led.modObj {K : Frag} {g h h' : Heap} {dx : Addr} {o o' : Obj} {O N : List HD} (H : Led K g h (objD dx o :: O) N) (hs : Heap.SameBut dx h h') (hd : h'.get? dx = some o') : Led K g h' (objD dx o' :: O) N := by
  have := H.modO (j := 0) (d := objD dx o) (d' := objD dx o') rfl rfl (sameBut_e hs) hd
  simpa using this

set_option maxRecDepth 100000 in
set_option maxHeartbeats 8000000 in
theorem in_call {w : World} {A : Around} {h : Heap} {gs : Array GenState} {dr : Drawn} {tk : Nat} {os : OsState} {R : Result → Shared → Prop} {x dx st : Addr}
    (H : Led (KK w) h h [objD dx (dictOf [] 0)] []) (hx : h.get? x = some (instObj 59 dx)) (hxd : x ≠ dx) (hd : A.depth < 700)
    (k : ∀ h' tk' t1 t2 t3 t4 t5 t6 n pb, Led (KK w) h h' [objD dx (dictOf (lexEs w ⟨x, dx, st, 0, 0, 0, 0, 0, pb⟩ 1 t1 t2 t3 t4 t5 t6) n)] [plainD pb []] → R (.ok (.ret .none)) ⟨h', gs, dr, tk', os⟩) :
    codeAny (model PG w) A (.call (.ref 35) ⟨[.ref x, .ref st], []⟩) R ⟨h, gs, dr, tk, os⟩ := by
  refine r_enter (lv := [(("fp" : Str), .ref st), (("self" : Str), .ref x)]) H (Nat.lt_of_lt_of_le hd (by decide)) rfl rfl rfl rfl rfl rfl rfl rfl rfl rfl ?_
  intro E' L h₁ tk₁ H1
  have hX : ∀ {h' : Heap} {es : List DictEntry} {n : Nat} {N : List HD}, Led (KK w) h h' [objD dx (dictOf es n)] N → h'.get? x = some (instObj 59 dx) := fun H' => H'.keep _ _ hx (by simpa [objD] using hxd)
  have hD : ∀ {h' : Heap} {es : List DictEntry} {n : Nat} {N : List HD}, Led (KK w) h h' [objD dx (dictOf es n)] N → h'.get? dx = some (dictOf es n) := fun H' => H'.atO (j := 0) rfl
  repeat' walk1
  refine r_setattr (es' := fun t => [⟨PyData.keyHash w.params "lineno", .str "lineno" t, _⟩]) (n' := 1) H1.gd.frag (hX H1) (hD H1) (by rfl) (by rfl) (by rfl) (by rfl) (by rfl) (by intro _; simp) (by intro _; rfl) ?_
  intro t1 h2 tk2 hd2 hs2
  have H2 := H1.modObj hs2 hd2
  repeat' walk1
  refine r_setattr (es' := fun t => [⟨PyData.keyHash w.params "lineno", .str "lineno" t1, _⟩, ⟨PyData.keyHash w.params "instream", .str "instream" t, .ref st⟩]) (n' := 2) H2.gd.frag (hX H2) (hD H2) (by rfl) (by rfl) (by rfl) (by rfl) (by rfl) (by intro _; simp) (by intro _; rfl) ?_
  intro t3 h3 tk3 hd3 hs3
  have H3 := H2.modObj hs3 hd3
  repeat' walk1
  refine r_setattr (es' := fun t => [⟨PyData.keyHash w.params "lineno", .str "lineno" t1, _⟩, ⟨PyData.keyHash w.params "instream", .str "instream" t3, .ref st⟩, ⟨PyData.keyHash w.params "whitespace", .str "whitespace" t, _⟩]) (n' := 3) H3.gd.frag (hX H3) (hD H3) (by rfl) (by rfl) (by rfl) (by rfl) (by rfl) (by intro _; simp) (by intro _; rfl) ?_
  intro t4 h4 tk4 hd4 hs4
  have H4 := H3.modObj hs4 hd4
  repeat' walk1
  rename_i pb h5 tk5 H5
  refine r_setattr (es' := fun t => [⟨PyData.keyHash w.params "lineno", .str "lineno" t1, _⟩, ⟨PyData.keyHash w.params "instream", .str "instream" t3, .ref st⟩, ⟨PyData.keyHash w.params "whitespace", .str "whitespace" t4, _⟩, ⟨PyData.keyHash w.params "pushback", .str "pushback" t, .ref pb⟩]) (n' := 4) H5.gd.frag (hX H5) (hD H5) (by rfl) (by rfl) (by rfl) (by rfl) (by rfl) (by intro _; simp) (by intro _; rfl) ?_
  intro t6 h6 tk6 hd6 hs6
  have H6 := H5.modObj hs6 hd6
  repeat' walk1
  exact k _ _ t1 _ t3 t4 _ t6 _ pb (H6.sub (by simp))
end Mine
end

section
open PySem PySem.W PySem.Calls PyProof.Rows
namespace Mine
section
variable {prog : Program} {w : World} {A : Around} {E : Value → Shared → Prop} {K : Frag} {g h : Heap} {O N : List HD} {gs : Array GenState} {dr : Drawn} {tk : Nat} {os : OsState} {env : Env}

theorem r_enterC {R : Result → Shared → Prop} {f : Addr} {oc : Value} {od : Option Addr} {sl : Array (Option Value)} {fd : FuncData} {body : List Stmt} {args : List Value} {binds lv : List (Str × Value)} {x : Str}
    (H : Led K h h O []) (hroom : A.depth < recursionLimit) (ho : K.lookup f = some ⟨oc, od, .func fd, sl⟩) (hcd : codeIn K fd.code fd.qualname = true) (hbody : fd.body = .stmts body)
    (hbind : bindArgs fd ⟨args, []⟩ = pure binds) (hclo : fd.closure = []) (hcs : ∀ L, cellsFrom L fd.scope.names [] = [(x, L)]) (hloc : (binds.all fun x => decide (fd.scope.names.lookup x.1 = some .local)) = true)
    (hbl : ∀ L, bindL (callEnvC fd L f).kindOf binds (fun _ => none) = fun y => lv.lookup y) (hbc : ∀ L, bindC (callEnvC fd L f).kindOf binds (fun _ => none) x = none)
    (hco : fd.scope.isCoroutine = false) (hgen : fd.scope.isGenerator = false) (hk : fd.scope.kind = .function)
    (q : ∀ (E' : Value → Shared → Prop) L h₁ tk₁, Led K h h₁ O [nsD L lv, cellD (L + 1) none] → wpAny (model prog w) (A.deeper (callEnvC fd L f)) (execs body (callEnvC fd L f)) (fun fl s' => R (.ok (.ret (match fl with | .ret v => v | _ => .none))) s') E' ⟨h₁, gs, dr, tk₁, os⟩) :
    codeAny (model prog w) A (.call (.ref f) ⟨args, []⟩) R ⟨h, gs, dr, tk, os⟩ := by
  refine codeAny_call_cells (s := ⟨h, gs, dr, tk, os⟩) hroom (H.gd.frag f _ ho) rfl H.gd.nl (codeRec_of H.gd.frag hcd) hbody hbind hclo (fun y hy => .inl (by simpa using List.all_eq_true.mp hloc y hy)) (fun s₁ I => ?_) hco hgen hk
  obtain ⟨h', tk', rfl, hkp⟩ := I.done
  have hns : h'.Ns h.objs.size (fun y => lv.lookup y) := by have := I.toInCall.ns; rw [hbl] at this; exact this
  have hce : h'.IsCell (h.objs.size + 1) none := by
    have := I.cell x (h.objs.size + 1) (by show (cellsFrom (h.objs.size + 1) fd.scope.names []).lookup x = _; rw [hcs]; simp)
    rw [hbc] at this; exact this
  refine q _ h.objs.size h' tk' ?_
  refine (H.adds (D := [nsD h.objs.size lv, cellD (h.objs.size + 1) none]) (H.ext hkp) rfl (fun d hd => ?_) (fun d hd a ha => ?_) ?_)
  · simp only [List.mem_cons, List.not_mem_nil, or_false] at hd
    rcases hd with rfl | rfl
    · exact hns
    · exact hce
  · simp only [List.mem_cons, List.not_mem_nil, or_false] at hd
    rcases hd with rfl | rfl
    · cases List.mem_singleton.mp ha; exact none_size h
    · cases List.mem_singleton.mp ha; exact Heap.get?_none_of_le (Nat.le_succ _)
  · simp [nsD, cellD]

def codeD (c : Addr) (qual : Str) : HD where
  fp := [c]
  P h := ∃ oc vs t, h.get? c = some oc ∧ oc.data = .fields vs ∧ vs[1]? = some (.str qual t)
  st h h' e p := let ⟨oc, vs, t, ho, r⟩ := p; ⟨oc, vs, t, e c (.head _) _ ho, r⟩
  al h p b hb := by cases hb with | head => (obtain ⟨_, _, _, ho, _⟩ := p; exact ⟨_, ho⟩) | tail _ q => cases q

theorem r_lam {params : Arguments} {body : PySem.Expr} {scope : Scope} {pos : Pos} {c P : Addr} {ps : Array Value} {clos : List (Str × Addr)} {Q : Value → Shared → Prop} (H : Led K g h (objD P (tabObj ps) :: O) N) (hdef : defaultsOf params env = ([], []))
    (hcl : closureFor scope env = pure clos) (hge : env.globals = mainGlobals) (hbm : ∃ mg, h.Ns mainGlobals mg ∧ h.BuiltinsAt mg P) (hgP : mainGlobals ≠ P) (hcode : env.code = .ref c) (C : CodeHd h c P) (ht : TriplesOk ps.toList) (hnf : codeAmong pos ps.toList = none)
    (q : ∀ c' f ctv pm h' tk', Led K g h' (objD P (tabObj (ps ++ #[rawInt pos.line, rawInt pos.col, .ref c'])) :: O) (N ++ [codeD c' (env.qual ++ "<lambda>"), objD f (kla_obj "<lambda>" (env.qual ++ "<lambda>") params body scope clos pm c' ctv)]) →
      (∃ mg, h'.Ns mainGlobals mg ∧ h'.BuiltinsAt mg P) → CodeHd h' c P → Q (.ref f) ⟨h', gs, dr, tk', os⟩) :
    wpAny (model prog w) A (eval (.Lambda params body scope pos) env) Q E ⟨h, gs, dr, tk, os⟩ := by
  obtain ⟨mg, hg, hb⟩ := hbm
  have hP : h.get? P = some (tabObj ps) := H.atO (j := 0) (d := objD P (tabObj ps)) rfl
  refine kla_eval hdef (kla_makeFunction (s := ⟨h, gs, dr, tk, os⟩) hcl hge hg hcode C hP ht hnf hgP hb fun c' ctv h' tk' hx hge' hlt hrec htb => ?_)
  have e1 : ∀ b o, b ∉ [P] → h.get? b = some o → (h'.push (kla_obj "<lambda>" (env.qual ++ "<lambda>") params body scope clos ((mg "__name__").getD .none) c' ctv)).get? b = some o := fun b o hb e => Heap.get?_push_of_some _ (hx b o (by simpa using hb) e)
  have H1 := H.modO (j := 0) (d := objD P (tabObj ps)) (d' := objD P (tabObj (ps ++ #[rawInt pos.line, rawInt pos.col, .ref c']))) rfl rfl e1 (Heap.get?_push_of_some _ htb)
  simp only [List.set_cons_zero] at H1
  have hsz : h.objs.size ≤ h'.objs.size := Nat.le_of_lt (Nat.lt_of_le_of_lt hge' hlt)
  refine q c' h'.objs.size ctv ((mg "__name__").getD .none) _ _ (H.adds (D := [codeD c' (env.qual ++ "<lambda>"), objD h'.objs.size (kla_obj "<lambda>" (env.qual ++ "<lambda>") params body scope clos ((mg "__name__").getD .none) c' ctv)]) H1 rfl (fun d hd => ?_) (fun d hd a ha => ?_) ?_) ?_ ?_
  · simp only [List.mem_cons, List.not_mem_nil, or_false] at hd
    rcases hd with rfl | rfl
    · obtain ⟨c2, oc, vs, t, e2, hoc, hd', hv⟩ := hrec
      cases e2
      exact ⟨oc, vs, t, Heap.get?_push_of_some _ hoc, hd', hv⟩
    · exact Heap.get?_push_size _ rfl
  · simp only [List.mem_cons, List.not_mem_nil, or_false] at hd
    rcases hd with rfl | rfl
    · cases List.mem_singleton.mp ha; exact Heap.get?_none_of_le hge'
    · cases List.mem_singleton.mp ha; exact Heap.get?_none_of_le hsz
  · show ([c', h'.objs.size] : List Nat).Nodup
    simp only [List.nodup_cons, List.mem_singleton, List.not_mem_nil, not_false_eq_true, List.nodup_nil, and_true]
    exact Nat.ne_of_lt hlt
  · obtain ⟨bm, ob, b1, b2, b3, b4, b5, b6⟩ := hb
    exact ⟨mg, hg.at (fun o ho => e1 _ o (by simpa using hgP) ho), bm, ob, b1, b2, b3, b4, e1 _ _ (by simpa using b4) b5, b6⟩
  · obtain ⟨o, vs, file, tf, flags, tg, inF, text, tt, e, f1, f2, f3, f4, f5, f6, f7, f8, f9⟩ := C
    exact ⟨o, vs, file, tf, flags, tg, inF, text, tt, e1 _ _ (by simpa using f9) e, f1, f2, f3, f4, f5, f6, f7, f8, f9⟩
end
end Mine
end

section
open PySem PySem.W PySem.Calls PyProof.Rows
namespace Mine

theorem Led.backNN {K : Frag} {g h h' : Heap} {O N D : List HD} {d d' : HD} (H : Led K g h O N) {j : Nat} (hj : N[j]? = some d) (hfp : d'.fp = d.fp) (H' : Led K h h' [d'] D) : Led K g h' O (N.set j d' ++ D) := by
  have H1 := H.mod hj hfp (fun b o hb e => H'.keep b o e (by simpa [hfp] using hb)) (H'.atO (j := 0) rfl)
  refine H.adds H1 (by rw [List.flatMap_append, List.flatMap_append, fps_set hj hfp]) (fun x hx => H'.all x (List.mem_append_right _ hx)) (fun x hx => H'.nw x hx) ?_
  have := H'.nd
  rw [List.flatMap_append] at this
  exact (List.nodup_append.mp this).2.1
theorem Led.backOO {K : Frag} {g h h' : Heap} {O N D : List HD} {d d' : HD} (H : Led K g h O N) {j : Nat} (hj : O[j]? = some d) (hfp : d'.fp = d.fp) (H' : Led K h h' [d'] D) : Led K g h' (O.set j d') (N ++ D) := by
  have H1 := H.modO hj hfp (fun b o hb e => H'.keep b o e (by simpa [hfp] using hb)) (H'.atO (j := 0) rfl)
  refine H.adds H1 (by rw [List.flatMap_append, List.flatMap_append, fps_set hj hfp]) (fun x hx => H'.all x (List.mem_append_right _ hx)) (fun x hx => H'.nw x hx) ?_
  have := H'.nd
  rw [List.flatMap_append] at this
  exact (List.nodup_append.mp this).2.1
theorem Led.regroup {K : Frag} {g h : Heap} {O N N' : List HD} (H : Led K g h O N) (hp : ∀ d ∈ N', d.P h) (hsub : ∀ a ∈ N'.flatMap HD.fp, a ∈ N.flatMap HD.fp) (hnd : (N'.flatMap HD.fp).Nodup) : Led K g h O N' := by
  have hm : ∀ x ∈ N', ∀ a ∈ x.fp, ∃ y ∈ N, a ∈ y.fp := fun x hx a ha => List.mem_flatMap.mp (hsub a (List.mem_flatMap.mpr ⟨x, hx, ha⟩))
  have hnd0 := H.nd
  rw [List.flatMap_append] at hnd0
  obtain ⟨n1, n2, n3⟩ := List.nodup_append.mp hnd0
  refine ⟨H.gd, fun x hx => ?_, ?_, fun x hx a ha => ?_, fun x hx a ha => ?_, H.keep⟩
  · rcases List.mem_append.mp hx with q | q
    · exact H.all x (List.mem_append_left _ q)
    · exact hp x q
  · rw [List.flatMap_append]
    exact List.nodup_append.mpr ⟨n1, hnd, fun a ha b hb => n3 a ha b (hsub b hb)⟩
  · obtain ⟨y, hy, hay⟩ := hm x hx a ha
    exact H.nw y hy a hay
  · rcases List.mem_append.mp hx with q | q
    · exact H.fr x (List.mem_append_left _ q) a ha
    · obtain ⟨y, hy, hay⟩ := hm x q a ha
      exact H.fr y (List.mem_append_right _ hy) a hay
theorem Paired.rev {α β : Type} {F : α → β → Prop} : ∀ {l₁ : List α} {l₂ : List β}, Paired F l₁ l₂ → Paired F l₁.reverse l₂.reverse
  | _, _, .nil => .nil
  | _, _, .cons h t => by rw [List.reverse_cons, List.reverse_cons]; exact Paired.app (Paired.rev t) (.cons h .nil)
theorem paired_of_get {α β : Type} {F : α → β → Prop} : ∀ {l₁ : List α} {l₂ : List β}, l₁.length = l₂.length → (∀ (i : Nat) x, l₁[i]? = some x → ∃ y, l₂[i]? = some y ∧ F x y) → Paired F l₁ l₂
  | [], [], _, _ => .nil
  | [], _ :: _, h, _ => by simp at h
  | _ :: _, [], h, _ => by simp at h
  | x :: l₁, y :: l₂, h, f => by
    refine .cons ?_ (paired_of_get (by simpa using h) fun i x hx => by simpa using f (i + 1) x (by simpa using hx))
    obtain ⟨y', h1, h2⟩ := f 0 x rfl
    simp at h1; subst h1; exact h2

section
variable {prog : Program} {w : World} {A : Around} {E : Value → Shared → Prop} {K : Frag} {g h : Heap} {O N : List HD} {gs : Array GenState} {dr : Drawn} {tk : Nat} {os : OsState}
theorem r_listS {cs : List Nat} {t : Tok} {Q : Value → Shared → Prop} (H : Led K g h O N) (hh : A.handled = none) (hsz : cs.length < 10000)
    (q : ∀ l h' tk', Led K g h' O (N ++ [strsD l (cs.map chS)]) → Q (.ref l) ⟨h', gs, dr, tk', os⟩) : wpAny (model prog w) A (call (.type "list") [.str (stS cs) t]) Q E ⟨h, gs, dr, tk, os⟩ := by
  refine call_list_str (s := ⟨h, gs, dr, tk, os⟩) hh (stS cs) t (hn := by simp [stS, sizeLine]; (first | lia | omega)) fun h' tk' acc c' hk hS hacc => q _ _ _ ?_
  refine H.new hk ⟨acc.toList, ⟨c', by simpa using hS⟩, paired_of_get ?_ ?_⟩ (by intro a ha; cases List.mem_singleton.mp ha; exact none_size h) (by simp [strsD])
  · have := hacc.1; simp [stS] at this; simpa using this
  · intro i v hv
    obtain ⟨c, u, hc, rfl⟩ := hacc.2 i v (by simpa using hv)
    have : cs[i]? = some c := by simpa [stS] using hc
    exact ⟨chS c, by rw [List.getElem?_map, this]; rfl, u, rfl⟩
theorem r_rev {l : Addr} {xs : List Str} {j : Nat} {pos : Pos} {Q : Value → Shared → Prop} (H : Led K g h O N) (hj : N[j]? = some (strsD l xs)) (hsz : xs.length < 10000)
    (q : ∀ h' tk', Led K g h' O (N.set j (strsD l xs.reverse)) → Q .none ⟨h', gs, dr, tk', os⟩) : wpAny (model prog w) A (callWith pos (.builtin "list.reverse") [.ref l] [] []) Q E ⟨h, gs, dr, tk, os⟩ := by
  obtain ⟨vs, hl, hp⟩ := H.at hj
  have u := plain_upd hl (fun xs => xs.reverse)
  have hlen := hp.length
  obtain ⟨n, hl⟩ := hl
  refine PySem.P.reverse_list hl (q _ _ (H.mod hj rfl (sameBut_e (Heap.SameBut.update ..)) ⟨vs.reverse, by simpa using u, Paired.rev hp⟩)) (by simp [sizeLine]; (first | lia | omega))
end
theorem bindL_one {kf : Str → Option NameKind} {n : Str} {v : Value} (hk : kf n = some .local) : bindL kf [(n, v)] (fun _ => none) = fun y => [(n, v)].lookup y := by
  funext y
  show (if kf n = some .local then fun y => if y = n then some v else none else fun _ => none) y = _
  rw [if_pos hk]
  rw [List.lookup_cons]
  by_cases e : y = n
  · subst e; simp
  · rw [if_neg e, beq_eq_false_iff_ne.mpr e]; rfl

set_option maxRecDepth 100000 in
set_option maxHeartbeats 8000000 in
theorem lx_call {w : World} {A : Around} {h : Heap} {gs : Array GenState} {dr : Drawn} {tk : Nat} {os : OsState} {R : Result → Shared → Prop} {cs : List Nat} {t : Tok}
    (H : Led (KK w) h h [objD 75 (tabObj #[])] []) (hbm : ∃ mg, h.Ns mainGlobals mg ∧ h.BuiltinsAt mg 75) (hd : A.depth < 600) (hu : A.units < 600) (hA : A.handled = none) (hsz : cs.length < 5000)
    (k : ∀ a ps h' tk', Led (KK w) h h' [objD 75 (tabObj ps)] [lexD w a [] cs (1 + nls cs)] → R (.ok (.ret (.ref a.x))) ⟨h', gs, dr, tk', os⟩) :
    codeAny (model PG w) A (.call (.ref 80) ⟨[.str (stS cs) t], []⟩) R ⟨h, gs, dr, tk, os⟩ := by
  refine r_enterC (lv := [(("text" : Str), .str (stS cs) t)]) (x := "signs") H (Nat.lt_of_lt_of_le hd (by decide)) rfl rfl rfl rfl rfl (by intro _; rfl) rfl (by intro _; exact bindL_one (by rfl)) (by intro _; rfl) rfl rfl rfl ?_
  intro E' L h₁ tk₁ H1
  repeat' walk1
  refine r_listS H1 hA (by (first | lia | omega)) ?_; intro sg h2 tk2 H2
  simp only [List.cons_append, List.nil_append] at H2
  refine r_stoC (j := 1) H2 (by rfl) (by rfl) (by rfl) (by rfl) ?_; intro h3 H3
  simp only [List.set_cons_zero, List.set_cons_succ] at H3
  clear H1 H2
  walk1
  walk1
  walk1
  refine r_cell (by rfl) (by rfl) (by rfl) (H3.at (j := 1) rfl) (by decide) ?_
  obtain ⟨vs3, hl3, hp3⟩ : ∃ vs : List Value, h3.PlainList sg vs.toArray ∧ Paired SV vs (cs.map chS) := H3.at (j := 2) (d := strsD sg (cs.map chS)) rfl
  refine r_lmeth hl3 PySem.F.slot_list_reverse PySem.F.type_list_reverse ?_
  refine r_rev (j := 2) H3 (by rfl) (by simp; (first | lia | omega)) ?_; intro h4 tk4 H4
  simp only [List.set_cons_zero, List.set_cons_succ] at H4
  clear hl3 hp3 H3
  walk1
  walk1
  have hbF : ∀ {h' : Heap} {o : Obj} {N : List HD}, Led (KK w) h h' [objD 75 o] N → ∃ mg, h'.Ns mainGlobals mg ∧ h'.BuiltinsAt mg 75 := by
    intro h' o N H'
    obtain ⟨mg, hg, bm, ob, b1, b2, b3, b4, b5, b6⟩ := hbm
    exact ⟨mg, hg.at (fun o ho => H'.keep _ o ho (by simp [objD]; decide)), bm, ob, b1, b2, b3, b4, H'.keep _ _ b5 (by simpa [objD] using b4), b6⟩
  have hCF : ∀ {h' : Heap} {o : Obj} {N : List HD}, Led (KK w) h h' [objD 75 o] N → CodeHd h' 79 75 := fun H' => ⟨_, _, _, _, _, _, _, _, _, H'.gd.frag 79 _ rfl, rfl, rfl, rfl, rfl, rfl, rfl, rfl, rfl, by decide⟩
  refine r_lam H4 (by rfl) (by rfl) (by rfl) (hbF H4) (by decide) (by rfl) (hCF H4) (by trivial) (by rfl) ?_
  intro c1 st ctv1 pm1 h5 tk5 H5 _ _
  simp only [List.cons_append, List.nil_append] at H5
  clear H4
  repeat' walk1
  rename_i h6 tk6 H6
  refine r_lam H6 (by rfl) (by rfl) (by rfl) (hbF H6) (by decide) (by rfl) (hCF H6) (by exact trivial) (by rfl) ?_
  intro c2 rd ctv2 pm2 h7 tk7 H7 _ _
  simp only [List.cons_append, List.nil_append] at H7
  clear H5 H6
  walk1
  have hst : h7.get? st = some _ := H7.at (j := 4) rfl
  refine r_fset hst fn_read ?_
  intro sd ts h8 tk8 hsd8 hd8 hf8 hk8
  have H8a := H7.mod (j := 4) (d := objD st _) (d' := objD st _) (by rfl) (by rfl) (fun b o hb e => hk8 b o (by simpa [objD] using hb) e) hf8
  simp only [List.set_cons_zero, List.set_cons_succ] at H8a
  have H8 := H7.adds (D := [objD sd _]) H8a (by rfl) (by intro d hd; cases List.mem_singleton.mp hd; exact hd8) (by intro d hd a ha; cases List.mem_singleton.mp hd; cases List.mem_singleton.mp ha; exact hsd8) (by simp [objD])
  simp only [List.cons_append, List.nil_append] at H8
  clear H7 H8a hst hk8 hf8 hd8 hsd8
  walk1
  walk1
  walk1
  walk1
  refine callWith_K (K := KK w) H8.gd.frag (by rfl) ?_
  walk1
  walk1
  walk1
  refine ⟨H8.gd.frag, ?_⟩
  refine wpAny_call (make_core (makes_of H8.gd.frag (by rfl)) (looks_findIn H8.gd.frag (by rfl)) (fun self => bind_fn H8.gd.frag self (by rfl)) (.inl rfl) ?_)
  generalize hhh : (h8.push emptyDict).push (instObj 59 h8.objs.size) = hh
  have hx : hh.get? (h8.objs.size + 1) = some (instObj 59 h8.objs.size) := by rw [← hhh]; have := Heap.get?_push_size (h8.push emptyDict) (o := instObj 59 h8.objs.size) rfl; rwa [Heap.size_push] at this
  have hdx : hh.get? h8.objs.size = some (dictOf [] 0) := by rw [← hhh]; exact Heap.get?_push_of_some _ (Heap.get?_push_size _ rfl)
  have hkk : ∀ b o, h8.get? b = some o → hh.get? b = some o := fun b o e => by rw [← hhh]; exact Heap.get?_push_of_some _ (Heap.get?_push_of_some _ e)
  have H9 := H8.adds (D := [objD h8.objs.size (dictOf [] 0), objD (h8.objs.size + 1) (instObj 59 h8.objs.size)]) (H8.ext hkk) rfl (by intro d hd; simp only [List.mem_cons, List.not_mem_nil, or_false] at hd; rcases hd with rfl | rfl <;> assumption)
    (by intro d hd a ha; simp only [List.mem_cons, List.not_mem_nil, or_false] at hd; rcases hd with rfl | rfl <;> cases List.mem_singleton.mp ha; exact none_size h8; exact Heap.get?_none_of_le (Nat.le_succ _)) (by simp [objD])
  simp only [List.cons_append, List.nil_append] at H9
  refine in_call (st := st) (H9.calleeN (j := 8) (by rfl)) hx (Nat.succ_ne_self _) (by rw [depth_under_make, deeper_depth']; (first | lia | omega)) ?_
  intro h10 tk10 t1 t2 t3 t4 t5 t6 n pb H10
  have H11 := H9.backNN (j := 8) (by rfl) (by rfl) H10
  simp only [List.set_cons_zero, List.set_cons_succ, List.cons_append, List.nil_append] at H11
  refine ⟨rfl, ?_⟩
  have hnd := H11.nd
  have g0 := H11.at (j := 1) rfl
  have g1 := H11.at (j := 2) rfl
  have g2 := H11.at (j := 4) rfl
  have g3 := H11.at (j := 5) rfl
  have g4 := H11.at (j := 6) rfl
  have g5 := H11.at (j := 7) rfl
  have g6 := H11.at (j := 8) rfl
  have g7 := H11.at (j := 9) rfl
  have g8 := H11.at (j := 10) rfl
  have LP : LexP w ⟨h8.objs.size + 1, h8.objs.size, st, sd, rd, c2, L + 1, sg, pb⟩ [] cs (1 + nls cs) h10 := by
    refine ⟨g7, ⟨t1, t2, t3, t4, t5, t6, n, ?_⟩, ⟨_, g2⟩, ⟨_, _, g5⟩, ⟨pm2, ctv2, _, g4, ?_⟩, g3, g0, ?_, ⟨[], g8, .nil⟩⟩
    · rw [show 1 + nls cs - nls cs = 1 by (first | lia | omega)]; exact g6
    · intro p b s hl
      have := Option.some.inj (show some _ = some (p, b, s) from hl)
      cases this
      rfl
    · obtain ⟨vs, a, b⟩ := g1; exact ⟨vs, a, by rw [List.map_reverse]; exact b⟩
  exact k ⟨h8.objs.size + 1, h8.objs.size, st, sd, rd, c2, L + 1, sg, pb⟩ _ _ _ (H11.regroup (by intro d hd; cases List.mem_singleton.mp hd; exact LP) (by
    intro a ha
    simp only [List.flatMap_cons, List.flatMap_nil, List.append_nil, lexD, nsD, cellD, strsD, codeD, objD, plainD, List.mem_append, List.mem_cons, List.not_mem_nil, or_false, List.cons_append, List.nil_append] at ha ⊢
    rcases ha with rfl | rfl | rfl | rfl | rfl | rfl | rfl | rfl | rfl <;> simp) (by
    simp only [List.flatMap_cons, List.flatMap_nil, List.append_nil, lexD, nsD, cellD, strsD, codeD, objD, plainD, List.cons_append, List.nil_append, List.nodup_cons, List.mem_cons, List.not_mem_nil, or_false, not_or] at hnd ⊢
    simp only [hnd, not_false_eq_true, and_self, and_true, true_and, ne_eq, Ne.symm]
    skip))
end Mine
end

section
open PySem PySem.W PySem.Calls PyProof.Rows
namespace Mine
theorem Paired.drop {α β : Type} {F : α → β → Prop} : ∀ {l₁ : List α} {l₂ : List β}, Paired F l₁ l₂ → ∀ n, Paired F (l₁.drop n) (l₂.drop n)
  | _, _, .nil, n => by simp; exact .nil
  | _, _, .cons h t, n => by
    cases n with
    | zero => exact .cons h t
    | succ n => exact Paired.drop t n
theorem Paired.take {α β : Type} {F : α → β → Prop} : ∀ {l₁ : List α} {l₂ : List β}, Paired F l₁ l₂ → ∀ n, Paired F (l₁.take n) (l₂.take n)
  | _, _, .nil, n => by simp; exact .nil
  | _, _, .cons h t, n => by
    cases n with
    | zero => exact .nil
    | succ n => exact .cons h (Paired.take t n)
section
variable {prog : Program} {w : World} {A : Around} {E : Value → Shared → Prop} {K : Frag} {g h : Heap} {O N : List HD} {gs : Array GenState} {dr : Drawn} {tk : Nat} {os : OsState}

theorem r_slc {value slice : PySem.Expr} {ops : List Value} {l : Addr} {vs : List Value} {xs : List Str} {vl vu : Value} {lo hi : Option Int} {Q : Value → Shared → Prop} (H : Led K g h O N) (hl : h.IsList l vs.toArray) (hp : Paired SV vs xs) (hsz : xs.length < 10000) (pl : IsPart vl lo) (pu : IsPart vu hi)
    (hs : subscripted slice false (.ref l) (.ref h.objs.size) = operate ops (getItem (.ref l) (.ref h.objs.size)))
    (q : ∀ D h' tk', Led K g h' O (N ++ [strsD D ((xs.drop (kms_lo lo xs.length)).take (kms_hi hi xs.length - kms_lo lo xs.length))]) → Q (.ref D) ⟨h', gs, dr, tk', os⟩) :
    wpAny (model prog w) A (subscriptTail value slice (.ref l) (.ref h.objs.size)) Q E ⟨h.push { cls := .type "slice", data := .fields #[vl, vu, .none] }, gs, dr, tk, os⟩ := by
  have hlen := hp.length
  refine tail_any (s := ⟨h.push _, gs, dr, tk, os⟩) (hl.push _).typeIs slot_list_getitem.lookup (wpAny_getItem_list_slice (s := ⟨h.push _, gs, dr, tk, os⟩) (hl.push _) (Heap.IsSliceOf.new ..) pl pu .none (by simp) ?_ (by simp [sizeLine]; (first | lia | omega))) hs
  refine q _ _ _ (Led.new (H.ext (push_e _)) (push_e _) ⟨(vs.drop (kms_lo lo xs.length)).take (kms_hi hi xs.length - kms_lo lo xs.length), ⟨0, ?_⟩, Paired.take (Paired.drop hp _) _⟩ (by intro a ha; cases List.mem_singleton.mp ha; exact none_size _) (by simp [strsD]))
  rw [kms_pick_eq]
  unfold kms_pick
  rw [show vs.toArray.toList = vs from rfl, hlen]
  exact Heap.get?_push_size _ rfl
theorem r_addL {l b : Addr} {vs us : List Value} {xs ys : List Str} {Q : Value → Shared → Prop} (H : Led K g h O N) (hl : h.PlainList l vs.toArray) (hp : Paired SV vs xs) (hb : h.PlainList b us.toArray) (hq : Paired SV us ys) (hsz : xs.length + ys.length < 10000)
    (q : ∀ D h' tk', Led K g h' O (N ++ [strsD D (xs ++ ys)]) → Q (.ref D) ⟨h', gs, dr, tk', os⟩) : wpAny (model prog w) A (binaryOp .Add (.ref l) (.ref b)) Q E ⟨h, gs, dr, tk, os⟩ := by
  have h1 := hp.length
  have h2 := hq.length
  obtain ⟨n, hl⟩ := hl
  obtain ⟨m, hb⟩ := hb
  refine PySem.P.add_list (s := ⟨h, gs, dr, tk, os⟩) hl hb (q _ _ _ (H.new (push_e _) ⟨vs ++ us, ⟨0, ?_⟩, Paired.app hp hq⟩ (by intro a ha; cases List.mem_singleton.mp ha; exact none_size h) (by simp [strsD]))) (by simp [sizeLine]; (first | lia | omega))
  rw [show (vs ++ us).toArray = vs.toArray ++ us.toArray by simp]
  exact Heap.get?_push_size _ rfl
end
end Mine
end

section
open PySem PySem.W PySem.Calls PyProof.Rows
namespace Mine
theorem pick_from {α : Type} (xs : List α) {c : Int} (hc : 0 ≤ c) : (xs.drop (kms_lo (some c) xs.length)).take (kms_hi none xs.length - kms_lo (some c) xs.length) = xs.drop c.toNat := by
  unfold kms_lo kms_hi
  dsimp only
  rw [if_neg (by (first | lia | omega))]
  by_cases h : c.toNat ≤ xs.length
  · rw [Nat.min_eq_left h, List.take_of_length_le (by simp)]
  · rw [Nat.min_eq_right (by (first | lia | omega)), List.drop_of_length_le (Nat.le_refl _), List.drop_of_length_le (by (first | lia | omega))]; simp
theorem pick_upto {α : Type} (xs : List α) {c : Int} (hc : 0 ≤ c) : (xs.drop (kms_lo none xs.length)).take (kms_hi (some c) xs.length - kms_lo none xs.length) = xs.take c.toNat := by
  unfold kms_lo kms_hi
  dsimp only
  rw [if_neg (by (first | lia | omega)), List.drop_zero, Nat.sub_zero]
  by_cases h : c.toNat ≤ xs.length
  · rw [Nat.min_eq_left h]
  · rw [Nat.min_eq_right (by (first | lia | omega)), List.take_of_length_le (Nat.le_refl _), List.take_of_length_le (by (first | lia | omega))]
section
variable {prog : Program} {w : World} {A : Around} {E : Value → Shared → Prop} {K : Frag} {g h : Heap} {O N : List HD} {gs : Array GenState} {dr : Drawn} {tk : Nat} {os : OsState}
theorem r_from {value slice : PySem.Expr} {ops : List Value} {l : Addr} {vs : List Value} {xs : List Str} {c : Int} {t : Tok} {Q : Value → Shared → Prop} (H : Led K g h O N) (hl : h.IsList l vs.toArray) (hp : Paired SV vs xs) (hsz : xs.length < 10000) (hc : 0 ≤ c)
    (hs : subscripted slice false (.ref l) (.ref h.objs.size) = operate ops (getItem (.ref l) (.ref h.objs.size)))
    (q : ∀ D h' tk', Led K g h' O (N ++ [strsD D (xs.drop c.toNat)]) → Q (.ref D) ⟨h', gs, dr, tk', os⟩) :
    wpAny (model prog w) A (subscriptTail value slice (.ref l) (.ref h.objs.size)) Q E ⟨h.push { cls := .type "slice", data := .fields #[.int c t, .none, .none] }, gs, dr, tk, os⟩ :=
  r_slc H hl hp hsz (.int c t) .none hs (by rw [pick_from xs hc]; exact q)
theorem r_upto {value slice : PySem.Expr} {ops : List Value} {l : Addr} {vs : List Value} {xs : List Str} {c : Int} {t : Tok} {Q : Value → Shared → Prop} (H : Led K g h O N) (hl : h.IsList l vs.toArray) (hp : Paired SV vs xs) (hsz : xs.length < 10000) (hc : 0 ≤ c)
    (hs : subscripted slice false (.ref l) (.ref h.objs.size) = operate ops (getItem (.ref l) (.ref h.objs.size)))
    (q : ∀ D h' tk', Led K g h' O (N ++ [strsD D (xs.take c.toNat)]) → Q (.ref D) ⟨h', gs, dr, tk', os⟩) :
    wpAny (model prog w) A (subscriptTail value slice (.ref l) (.ref h.objs.size)) Q E ⟨h.push { cls := .type "slice", data := .fields #[.none, .int c t, .none] }, gs, dr, tk, os⟩ :=
  r_slc H hl hp hsz .none (.int c t) hs (by rw [pick_upto xs hc]; exact q)
theorem Led.strs {l : Addr} {xs : List Str} (H : Led K g h O N) {j : Nat} (hj : N[j]? = some (strsD l xs)) : ∃ vs : List Value, h.PlainList l vs.toArray ∧ Paired SV vs xs := H.at hj
theorem Led.bplain {l : Addr} {vs : Array Value} (H : Led K g h [] N) (hl : g.PlainList l vs) : h.PlainList l vs := hl.at fun o e => H.base e
end
section
variable {prog : Program} {w : World} {A : Around} {E : Value → Shared → Prop} {K : Frag} {g h : Heap} {O N : List HD} {gs : Array GenState} {dr : Drawn} {tk : Nat} {os : OsState}
theorem r_itemN {value slice : PySem.Expr} {l : Addr} {vs : List Value} {k : Int} {u : Tok} {v : Value} {Q : Value → Shared → Prop} (hl : h.IsList l vs.toArray) (h0 : k < 0) (h1 : 0 ≤ k + vs.length) (hsz : vs.length < 100000) (hx : vs[(k + vs.length).toNat]? = some v) (q : Q v ⟨h, gs, dr, tk, os⟩)
    {ops : List Value} (hs : subscripted slice false (.ref l) (.int k u) = operate ops (getItem (.ref l) (.int k u))) :
    wpAny (model prog w) A (subscriptTail value slice (.ref l) (.int k u)) Q E ⟨h, gs, dr, tk, os⟩ :=
  tail_any (s := ⟨h, gs, dr, tk, os⟩) hl.typeIs slot_list_getitem.lookup (wpAny_getItem_list_neg (s := ⟨h, gs, dr, tk, os⟩) hl h0 (by simp; (first | lia | omega)) (by (first | lia | omega)) (by simpa using hx) q) hs
theorem r_lastI {value slice : PySem.Expr} {l : Addr} {xs : List Int} {j : Nat} {u : Tok} {x : Int} {Q : Value → Shared → Prop} (H : Led K g h O N) (hj : N[j]? = some (intsD l xs)) (h1 : 0 < xs.length) (hsz : xs.length < 10000) (hx : xs[xs.length - 1]? = some x)
    (q : ∀ t, Q (.int x t) ⟨h, gs, dr, tk, os⟩) {ops : List Value} (hs : subscripted slice false (.ref l) (.int (-1) u) = operate ops (getItem (.ref l) (.int (-1) u))) :
    wpAny (model prog w) A (subscriptTail value slice (.ref l) (.int (-1) u)) Q E ⟨h, gs, dr, tk, os⟩ := by
  obtain ⟨vs, hl, hp⟩ := H.at hj
  have hlen := hp.length
  obtain ⟨v, hv, t, rfl⟩ := Paired.get hp hx
  exact r_itemN hl (by (first | lia | omega)) (by (first | lia | omega)) (by (first | lia | omega)) (by rw [show (-1 + (vs.length : Int)).toNat = xs.length - 1 by (first | lia | omega)]; exact hv) (q t) hs
end

def pintsD (a : Addr) (xs : List Int) : HD where
  fp := [a]
  P h := ∃ vs : List Value, h.PlainList a vs.toArray ∧ Paired IV vs xs
  st h h' e p := by obtain ⟨vs, l, q⟩ := p; exact ⟨vs, l.at (e a (.head _)), q⟩
  al h p b hb := by cases hb with | head => (obtain ⟨vs, ⟨n, ho⟩, _⟩ := p; exact ⟨_, ho⟩) | tail _ q => cases q
theorem Led.pints {K : Frag} {g h : Heap} {O N : List HD} {l : Addr} {xs : List Int} (H : Led K g h O N) {j : Nat} (hj : N[j]? = some (pintsD l xs)) : ∃ vs : List Value, h.PlainList l vs.toArray ∧ Paired IV vs xs := H.at hj
theorem Led.ints {K : Frag} {g h : Heap} {O N : List HD} {l : Addr} {xs : List Int} (H : Led K g h O N) {j : Nat} (hj : N[j]? = some (intsD l xs)) : ∃ vs : List Value, h.IsList l vs.toArray ∧ Paired IV vs xs := H.at hj
theorem zs_app (a b : List Nat) : zs (a ++ b) = zs a ++ zs b := by unfold zs; rw [List.map_append]
theorem zs_len (a : List Nat) : (zs a).length = a.length := by unfold zs; rw [List.length_map]
def rowsD (a : Addr) (as : List Addr) (rs : List (List Str)) : HD where
  fp := a :: as
  P h := h.PlainList a (as.map Value.ref).toArray ∧ Paired (fun b xs => ∃ vs : List Value, h.PlainList b vs.toArray ∧ Paired SV vs xs) as rs
  st h h' e p := by
    obtain ⟨p1, p2⟩ := p
    refine ⟨p1.at (e a (.head _)), ?_⟩
    have e2 : ∀ b ∈ as, ∀ o, h.get? b = some o → h'.get? b = some o := fun b hb => e b (.tail _ hb)
    clear p1 e
    induction p2 with
    | nil => exact .nil
    | cons q t ih =>
      obtain ⟨vs, l, r⟩ := q
      exact .cons ⟨vs, l.at (e2 _ (.head _)), r⟩ (ih fun b hb => e2 b (.tail _ hb))
  al h p b hb := by
    obtain ⟨p1, p2⟩ := p
    rcases List.mem_cons.mp hb with rfl | hb
    · obtain ⟨n, ho⟩ := p1; exact ⟨_, ho⟩
    · clear p1
      induction p2 with
      | nil => cases hb
      | cons q t ih =>
        rcases List.mem_cons.mp hb with rfl | hb
        · obtain ⟨vs, ⟨n, ho⟩, _⟩ := q; exact ⟨_, ho⟩
        · exact ih (List.mem_cons_of_mem _ hb) hb

def rowsX (a : Addr) (us : List Value) (as : List Addr) (rs : List (List Str)) : HD where
  fp := a :: as
  P h := h.PlainList a us.toArray ∧ Paired (fun b xs => ∃ vs : List Value, h.PlainList b vs.toArray ∧ Paired SV vs xs) as rs
  st h h' e p := by
    obtain ⟨p1, p2⟩ := p
    refine ⟨p1.at (e a (.head _)), ?_⟩
    have e2 : ∀ b ∈ as, ∀ o, h.get? b = some o → h'.get? b = some o := fun b hb => e b (.tail _ hb)
    clear p1 e
    induction p2 with
    | nil => exact .nil
    | cons q t ih =>
      obtain ⟨vs, l, r⟩ := q
      exact .cons ⟨vs, l.at (e2 _ (.head _)), r⟩ (ih fun b hb => e2 b (.tail _ hb))
  al h p b hb := by
    obtain ⟨p1, p2⟩ := p
    rcases List.mem_cons.mp hb with rfl | hb
    · obtain ⟨n, ho⟩ := p1; exact ⟨_, ho⟩
    · clear p1
      induction p2 with
      | nil => cases hb
      | cons q t ih =>
        rcases List.mem_cons.mp hb with rfl | hb
        · obtain ⟨vs, ⟨n, ho⟩, _⟩ := q; exact ⟨_, ho⟩
        · exact ih (List.mem_cons_of_mem _ hb) hb

theorem rows_keep {h h' : Heap} {as : List Addr} {rs : List (List Str)} (e : ∀ b ∈ as, ∀ o, h.get? b = some o → h'.get? b = some o) (p : Paired (fun b xs => ∃ vs : List Value, h.PlainList b vs.toArray ∧ Paired SV vs xs) as rs) :
    Paired (fun b xs => ∃ vs : List Value, h'.PlainList b vs.toArray ∧ Paired SV vs xs) as rs := by
  induction p with
  | nil => exact .nil
  | cons q t ih =>
    obtain ⟨vs, l, r⟩ := q
    exact .cons ⟨vs, l.at (e _ (.head _)), r⟩ (ih fun b hb => e b (.tail _ hb))
inductive Toks : List Nat → List (List Nat) → List Nat → Prop
  | done {rest rest' : List Nat} : tok rest = some ([], rest') → Toks rest [] rest'
  | more {rest r rest' wd : List Nat} {ws : List (List Nat)} : tok rest = some (wd, r) → wd ≠ [] → r.length ≤ rest.length → Toks r ws rest' → Toks rest (wd :: ws) rest'
end Mine
namespace Mine
theorem paired_nats : ∀ {acc : List Value} {us : List Unit}, Paired (fun v _ => ∃ (x : Nat) (t : Tok), v = .int x t) acc us → ∃ xs : List Nat, xs.length = us.length ∧ Paired IV acc (zs xs)
  | _, _, .nil => ⟨[], rfl, .nil⟩
  | _, _, .cons h t => by
    obtain ⟨xs, e, p⟩ := paired_nats t
    obtain ⟨x, u, rfl⟩ := h
    exact ⟨x :: xs, by simp [e], .cons ⟨u, rfl⟩ p⟩
theorem zs_sum_nonneg : ∀ xs : List Nat, ∃ n : Nat, (zs xs).sum = n
  | [] => ⟨0, rfl⟩
  | x :: xs => by
    obtain ⟨n, e⟩ := zs_sum_nonneg xs
    exact ⟨x + n, by show ((x : Int) + (zs xs).sum) = _; rw [e]; (first | lia | omega)⟩
theorem ints_get : ∀ {vs : List Value} {ns : List Int}, IntsAre vs ns → ∀ {k : Nat}, k < vs.length → ∃ x t, vs[k]? = some (.int x t) := by
  intro vs ns h k hk
  have := h.allInts vs[k] (by simp)
  obtain ⟨x, t, e⟩ := this
  exact ⟨x, t, by rw [List.getElem?_eq_getElem hk, e]⟩
theorem range_lt {a b c : Int} (hc : 0 < c) {i : Nat} (hi : (i : Int) < Builtin.Range.rangeSize a b c) : a + i * c < b := by
  unfold Builtin.Range.rangeSize at hi
  rw [if_pos hc] at hi
  split at hi
  · have h1 : (i : Int) ≤ (b - a - 1) / c := by (first | lia | omega)
    have h2 := Int.mul_le_of_le_ediv hc h1
    (first | lia | omega)
  · (first | lia | omega)
theorem small_pos {a b c : Int} (hc : 0 < c ∧ c < 2 ^ 40) (ha : 0 ≤ a ∧ a < 2 ^ 40) (hb : 0 ≤ b ∧ b < 2 ^ 40) : Builtin.Range.small a b c = true := by
  have hs : 0 ≤ Builtin.Range.rangeSize a b c ∧ Builtin.Range.rangeSize a b c ≤ 2 ^ 40 := by
    have h1 := rangeSize_toNat a b c
    have h2 := rangeSize_toNat_le a b c
    (first | lia | omega)
  unfold Builtin.Range.small
  simp only [Builtin.Range.rangeFitsLong, Bool.and_eq_true, Bool.or_eq_true, decide_eq_true_eq, beq_iff_eq, if_pos hc.1]
  (first | lia | omega)

section
variable {prog : Program} {w : World} {A : Around} {E : Value → Shared → Prop} {K : Frag} {g h : Heap} {O N : List HD} {gs : Array GenState} {dr : Drawn} {tk : Nat} {os : OsState} {env : Env}
theorem r_strFrom {value slice : PySem.Expr} {x : Str} {t ui : Tok} {i : Int} {Q : Value → Shared → Prop} (H : Led K g h O N) (hsz : x.length ≤ 10000)
    (hs : subscripted slice false (.str x t) (.ref h.objs.size) = operate [.ref h.objs.size, .str x t] (getItem (.str x t) (.ref h.objs.size)))
    (ht : ∀ r, letTemporaryGo value (.str x t) r = pure ())
    (q : ∀ t' h' tk', Led K g h' O N → Q (.str (Txt.slice x (some i) none) t') ⟨h', gs, dr, tk', os⟩) :
    wpAny (model prog w) A (subscriptTail value slice (.str x t) (.ref h.objs.size)) Q E ⟨h.push { cls := .type "slice", data := .fields #[.int i ui, .none, .none] }, gs, dr, tk, os⟩ :=
  tail_of_ItemOn (s := ⟨h.push _, gs, dr, tk, os⟩) (SBH.sliceItem_sn (s := ⟨h, gs, dr, tk, os⟩) (P := fun h' => Led K g h' O N) (fun h' o H' => H'.ext (push_e _)) H (fun h' t' k H' => q t' h' k H') (by simp [sizeLine]; (first | lia | omega))) hs ht
theorem join_flat : ∀ zs : List (List Nat), Str.join "" (zs.map stS) = stS zs.flatten
  | [] => rfl
  | [x] => by simp [Str.join]
  | x :: y :: r => by
    have ih := join_flat (y :: r)
    simp only [List.map_cons] at ih ⊢
    show stS x ++ Str.ofString "" ++ Str.join "" (stS y :: r.map stS) = _
    rw [ih]
    apply Str.ext'
    rw [Str.cps_append, Str.cps_append, show (Str.ofString "").cps = #[] from by decide]
    simp [stS]
theorem r_join {D : Addr} {acc : List Value} {zs : List (List Nat)} {t : Tok} {Q : Value → Shared → Prop} (hl : h.IsList D acc.toArray) (hp : Paired (fun v z => SV v (stS z)) acc zs) (hsz : ∀ z ∈ zs, z.length ≤ 1000) (hn : zs.length ≤ 1000)
    (q : ∀ t' tk', Q (.str (stS zs.flatten) t') ⟨h, gs, dr, tk', os⟩) : wpAny (model prog w) A (call (.builtin "str.join") [.str "" t, .ref D]) Q E ⟨h, gs, dr, tk, os⟩ := by
  have key : ∃ l : List (Str × Tok), acc = strValues l ∧ l.map (·.1) = zs.map stS := by
    clear hl q hsz hn
    induction hp with
    | nil => exact ⟨[], rfl, rfl⟩
    | cons hv t ih =>
      obtain ⟨l, e1, e2⟩ := ih
      obtain ⟨u, rfl⟩ := hv
      exact ⟨(_, u) :: l, by rw [e1]; rfl, by rw [List.map_cons, e2]; rfl⟩
  obtain ⟨l, rfl, e2⟩ := key
  refine SC.join (s := ⟨h, gs, dr, tk, os⟩) hl e2 ?_ (fun t' k => ?_)
  · unfold JoinOk
    rw [StrLaws.joinFits (B := 1000)]
    · rfl
    · intro y hy
      obtain ⟨z, hz, rfl⟩ := List.mem_map.mp hy
      rw [stS_len]; exact hsz z hz
    · rw [List.length_map]
      have : (Str.ofString "").length = 0 := by decide
      rw [this]; (first | lia | omega)
  · rw [show Txt.join "" (zs.map stS) = Str.join "" (zs.map stS) from StrLaws.glued_eq_join _ _, join_flat]
    exact q _ _
end
end Mine
namespace Mine
theorem nls_le (cs : List Nat) : 0 ≤ nls cs ∧ nls cs ≤ cs.length := by
  unfold nls
  have := List.length_filter_le (· == 10) cs
  (first | lia | omega)
end Mine
namespace Mine
end Mine
namespace Mine
section
variable {K : Frag} {g h h' : Heap} {O N : List HD}
theorem Led.backNw (H : Led K g h O N) {d : HD} (H' : Led K h h' [] [d]) : Led K g h' O (N ++ [d]) :=
  H.backNew (by have := H'.nd; simpa using this) H'
end
section
variable {prog : Program} {w : World} {A : Around} {E : Value → Shared → Prop} {s : Shared} {Q : Value → Shared → Prop}
end
theorem paired_ints : ∀ {acc : List Value} {xs : List Nat}, Paired (fun v (n : Nat) => IV v n) acc xs → Paired IV acc (zs xs)
  | _, _, .nil => .nil
  | _, _, .cons h t => .cons h (paired_ints t)
end Mine
end

section
open PySem PySem.W PySem.Calls PyProof.Rows
namespace Mine

end Mine
end
local macro_rules | `(tactic| walk_at "eval Name") => `(tactic| (refine r_cellM (by rfl) (by rfl) (by rfl) (by assumption) (by repeat (first | exact .head _ | refine .tail _ ?_)) (by decide) ?_))
section
open PySem PySem.W PySem.Calls PyProof.Rows
namespace Mine
set_option maxRecDepth 100000 in
set_option maxHeartbeats 8000000 in
theorem hp_call {w : World} {A : Around} {h : Heap} {gs : Array GenState} {dr : Drawn} {tk : Nat} {os : OsState} {R : Result → Shared → Prop} {l : Addr} {vs : List Value} {ns : List Int}
    (G : Gd (KK w) h) (hl : h.IsList l vs.toArray) (hi : IntsAre vs ns) (hsz : vs.length ≤ 63) (hd : A.depth < 600) (hu : A.units < 600) (hA : A.handled = none)
    (k : ∀ D hs h' tk', hs.length = 10 → Led (KK w) h h' [] [pintsD D (zs hs)] → R (.ok (.ret (.ref D))) ⟨h', gs, dr, tk', os⟩) :
    codeAny (model PG w) A (.call (.ref 68) ⟨[.ref l], []⟩) R ⟨h, gs, dr, tk, os⟩ := by
  refine r_enterN (lv := []) (D := fun L => [cellD (L + 1) (some (.ref l))]) (ns := ["script"]) (Led.start G) (Nat.lt_of_lt_of_le hd (by decide)) rfl rfl rfl rfl rfl (by intro _; rfl) (by decide) (by intro _; rfl) ?_ (by intro _; rfl) rfl rfl rfl ?_
  · intro L x hx
    cases List.mem_singleton.mp hx
    exact .inr ⟨by rfl, by rfl⟩
  intro E' L h₁ tk₁ H1
  walk1
  walk1
  refine eval_LC (by rfl) (by rfl) ?_
  refine comp_map (β := Unit) (K := KK w) (g := h) 10 (fun v _ => ∃ (x : Nat) (t : Tok), v = .int x t) (fun _ => ()) (fun _ => []) [nsD L [], cellD (L + 1) (some (.ref l))] (by (first | lia | omega)) (by intro _; rfl) (by rfl) (by rfl) (by rfl) (by rfl) (by rfl) ?_
  repeat' walk1
  refine r_range1 H1 ?_; intro r2 h2 tk2 H2
  simp only [List.cons_append, List.nil_append] at H2
  refine r_itR (n := 10) (N := [_, _]) H2 (by rfl) (by rfl) ?_; intro it h3 tk3 H3
  refine ⟨it, _, _, _, h3, tk3, rfl, rfl, itr_range hA, H3, fun _ _ _ _ _ => trivial, ?_, ?_⟩
  · clear H1 H2 H3 h₁ h2 h3
    intro E2 C D i lv acc v h5 tk5 NN2 hNN2 hi10 hv e1 hacc H5
    obtain ⟨t, rfl⟩ := hv
    repeat' walk1
    refine eval_LC (by rfl) (by rfl) ?_
    have hlen : (vs.toArray.size : Int) = vs.length := by simp
    refine comp_map (β := Unit) (K := KK w) (g := h) (Builtin.Range.rangeSize (0 + (i : Int) * 1) (min 63 (vs.length : Int)) 10).toNat (fun v _ => ∃ (x : Nat) (t : Tok), v = .int x t) (fun _ => ()) (fun _ => [])
      [nsD C lv, nsD L [], cellD (L + 1) (some (.ref l)), riD it (0 + ((i + 1 : Nat) : Int) * 1) ((10 : Nat) - ((i + 1 : Nat) : Int)) 1, plainD D acc] ?_ (by intro _; rfl) (by rfl) (by rfl) (by rfl) (by rfl) (by rfl) ?_
    · have := rangeSize_toNat_le (0 + (i : Int) * 1) (min 63 (vs.length : Int)) 10
      (first | lia | omega)
    repeat' walk1
    refine r_len (H5.blist hl) (by (first | lia | omega)) ?_; intro t6 tk6
    repeat' walk1
    refine r_min H5 hA ?_; intro t7 h7 tk7 H7
    repeat' walk1
    refine r_range3 H7 (by decide) (PyProof.noPylong_small (by decide)) ?_; intro r8 h8 tk8 H8
    refine r_itR (n := (Builtin.Range.rangeSize (0 + (i : Int) * 1) (min 63 (vs.length : Int)) 10).toNat) (N := [_, _, _, _, _]) H8 (small_pos (by (first | lia | omega)) (by (first | lia | omega)) (by (first | lia | omega))) (rangeSize_toNat _ _ _) ?_; intro it2 h9 tk9 H9
    refine ⟨it2, _, _, _, h9, tk9, rfl, rfl, itr_range hA, H9, fun _ _ _ _ _ => trivial, ?_, ?_⟩
    · clear H5 H7 H8 H9 e1
      intro E3 C2 D2 i2 lv2 acc2 v2 h10 tk10 NN3 hNN3 hi2 hv2 e2 hacc2 H10
      obtain ⟨t2, rfl⟩ := hv2
      have hlt : 0 + (i : Int) * 1 + (i2 : Int) * 10 < min 63 (vs.length : Int) := range_lt (by decide) (by rw [rangeSize_toNat]; (first | lia | omega))
      repeat' walk1
      obtain ⟨x, tx, hx⟩ := ints_get hi (k := (0 + (i : Int) * 1 + (i2 : Int) * 10).toNat) (by (first | lia | omega))
      refine r_item (H10.blist hl) (by (first | lia | omega)) (by (first | lia | omega)) hx ?_ (by with_unfolding_all rfl)
      walk1
      refine r_mod (by decide) ?_; intro t11 tk11
      exact TP.mk hNN3 ⟨(x % 5040).toNat, t11, by rw [Int.toNat_of_nonneg (Int.emod_nonneg _ (by decide))]⟩ (H10)
    · intro C2 D2 lv2 acc2 h10 tk10 hp2 H10
      refine uend_none (N := [_, _, _, _, _]) H10 fun h11 H11 => ?_
      simp only [List.cons_append, List.nil_append] at H11
      obtain ⟨xs, hxl, hxp⟩ := paired_nats hp2
      repeat' walk1
      have hpl : h11.PlainList D2 acc2.toArray := H11.at (j := 5) (d := plainD D2 acc2) rfl
      refine r_sum H11 hA hpl.isList hxp ?_; intro t12 h12 tk12 H12
      obtain ⟨n12, hn12⟩ := zs_sum_nonneg xs
      rw [hn12]
      repeat' walk1
      refine TP.mk hNN2 ⟨_, _, rfl⟩ (H12.sub (by simp))
  · intro C D lv acc h5 tk5 hp H5
    refine uend_none (N := [_, _]) H5 fun h6 H6 => ?_
    simp only [List.cons_append, List.nil_append] at H6
    obtain ⟨xs, hxl, hxp⟩ := paired_nats hp
    have H7 := H6.conv (j := 2) (d' := pintsD D (zs xs)) (by rfl) (by rfl) (fun p => ⟨_, p, hxp⟩)
    simp only [List.set_cons_zero, List.set_cons_succ] at H7
    exact k D xs h6 tk5 (by simp [hxl]) (H7.sub (by simp))
end Mine
end

section
open PySem PySem.W PySem.Calls PyProof.Rows
namespace Mine


end Mine
end
local macro_rules | `(tactic| walk_at "binaryOp Mod int int") => `(tactic| (refine r_mod (by decide) ?_; intro _ _))
local macro_rules | `(tactic| walk_at "binaryOp FloorDiv int int") => `(tactic| (refine r_fdiv (by decide) (by decide) ?_; intro _ _))
local macro_rules | `(tactic| walk_at "eval ListComp") => `(tactic| (refine eval_LC (by rfl) (by rfl) ?_))
section
open PySem PySem.W PySem.Calls PyProof.Rows
namespace Mine
def white (n : Nat) : List Nat := if n / 3 % 4 = 0 then [32] else if n / 3 % 4 = 1 then [10] else if n / 3 % 4 = 2 then [9, 10] else [13]
def esc (k : List Nat) (c : Nat) : List Nat := if c ∈ k then [92, c] else [c]
def spell (cs : List Nat) (n : Nat) : List Nat :=
  if n % 3 = 0 then cs.flatMap (esc [32, 10, 34, 92]) ++ white n else if n % 3 = 1 then [34] ++ cs.flatMap (esc [34, 92]) ++ [34] ++ (white n).drop 1 else cs.flatMap (fun c => [92, c]) ++ white n
theorem range_getD {β : Type} (f : Nat → β) (cs : List Nat) : (List.range cs.length).map (fun i => f (cs.getD i 0)) = cs.map f := by
  apply List.ext_getElem
  · simp
  · intro i h1 h2
    simp at h1 h2 ⊢
    rw [List.getElem?_eq_getElem h1]; rfl
theorem stS_add (a b : List Nat) : stS a ++ stS b = stS (a ++ b) := by
  apply Str.ext'
  rw [Str.cps_append]
  simp [stS]
theorem bs_add (c : Nat) : Str.ofString "\\" ++ chS c = stS [92, c] := by
  rw [show Str.ofString "\\" = stS [92] from by decide, show chS c = stS [c] from rfl, stS_add]; rfl
theorem flat_len {f : Nat → List Nat} (hf : ∀ c, (f c).length ≤ 2) (cs : List Nat) : (cs.map f).flatten.length ≤ 2 * cs.length := by
  induction cs with
  | nil => simp
  | cons c cs ih => have := hf c; simp at ih ⊢; (first | lia | omega)
theorem white_len (n : Nat) : (white n).length ≤ 2 := by unfold white; split; simp; split; simp; split <;> simp
theorem esc_len (k : List Nat) (c : Nat) : (esc k c).length ≤ 2 := by unfold esc; split <;> simp
theorem fnd_one (x : Str) (c : Nat) : (!(Builtin.Str.occurrences x (chS c) 0 x.length 1).isEmpty) = decide (c ∈ x.cps.toList) := StrLaws.found_one x c
theorem whites (n : Nat) : [Str.ofString " ", Str.ofString "\n", Str.ofString "\t\n", Str.ofString "\u000d"][n / 3 % 4]? = some (stS (white n)) := by
  have h : n / 3 % 4 < 4 := Nat.mod_lt _ (by decide)
  unfold white
  generalize n / 3 % 4 = m at *
  match m, h with
  | 0, _ => decide
  | 1, _ => decide
  | 2, _ => decide
  | 3, _ => decide
theorem white_slice (n : Nat) : Txt.slice (stS (white n)) (some 1) none = stS ((white n).drop 1) := by
  have h : n / 3 % 4 < 4 := Nat.mod_lt _ (by decide)
  unfold white
  generalize n / 3 % 4 = m at *
  match m, h with
  | 0, _ => decide
  | 1, _ => decide
  | 2, _ => decide
  | 3, _ => decide
set_option maxRecDepth 100000 in
set_option maxHeartbeats 8000000 in
theorem sp_call {w : World} {A : Around} {h : Heap} {gs : Array GenState} {dr : Drawn} {tk : Nat} {os : OsState} {R : Result → Shared → Prop} {cs : List Nat} {n : Nat} {t u : Tok}
    (G : Gd (KK w) h) (hcs : ∀ c ∈ cs, c < 128) (hsz : cs.length < 400) (hd : A.depth < 600) (hA : A.handled = none)
    (k : ∀ t' h' tk', Led (KK w) h h' [] [] → R (.ok (.ret (.str (stS (spell cs n)) t'))) ⟨h', gs, dr, tk', os⟩) :
    codeAny (model PG w) A (.call (.ref 73) ⟨[.str (stS cs) t, .int n u], []⟩) R ⟨h, gs, dr, tk, os⟩ := by
  refine r_enter (lv := [(("number" : Str), .int n u), (("word" : Str), .str (stS cs) t)]) (Led.start G) (Nat.lt_of_lt_of_le hd (by decide)) rfl rfl rfl rfl rfl rfl rfl rfl rfl rfl ?_
  intro E' L h₁ tk₁ H1
  repeat' walk1
  rename_i t2 _ t3 _ t4 _ t5 _ a2 h2 tk2 H2 _ _ _ _ _ _ _ _
  have p2 : h2.PlainList a2 [.str " " t2, .str "\n" t3, .str "\t\n" t4, .str "\u000d" t5].toArray := H2.at (j := 1) (d := plainD a2 _) rfl
  refine r_itemS (xs := [Str.ofString " ", Str.ofString "\n", Str.ofString "\t\n", Str.ofString "\u000d"]) (x := stS (white n)) p2.isList (.cons ⟨_, rfl⟩ (.cons ⟨_, rfl⟩ (.cons ⟨_, rfl⟩ (.cons ⟨_, rfl⟩ .nil)))) (by (first | lia | omega)) (by (first | lia | omega)) (by rw [show ((n : Int) / 3 % 4).toNat = n / 3 % 4 by (first | lia | omega)]; exact whites n) ?_ (by with_unfolding_all rfl)
  intro t6
  have hasc : (stS cs).cps.all (· < 128) = true := by
    rw [show (stS cs).cps = cs.toArray from rfl, List.all_toArray, List.all_eq_true]
    exact fun c hc => decide_eq_true (hcs c hc)
  repeat' walk1
  · rename Led _ _ _ _ _ => H7
    have H8 := H7.sub (.cons_cons _ (.cons _ .slnil))
    refine comp_map (β := List Nat) (K := KK w) (g := h) cs.length (fun v z => SV v (stS z)) (fun i => esc [32, 10, 34, 92] (cs.getD i 0)) (fun _ => []) [nsD L [(("white" : Str), .str (stS (white n)) t6), (("number" : Str), .int n u), (("word" : Str), .str (stS cs) t)]] (by (first | lia | omega)) (by intro _; rfl) (by rfl) (by rfl) (by rfl) (by rfl) (by rfl) ?_
    walk1
    refine r_iterS H8 hasc ?_; intro it h9 tk9 H9
    refine ⟨it, _, _, _, h9, tk9, rfl, rfl, itr_str (x := stS cs) (t := t) hA, H9, fun _ _ _ _ _ => trivial, ?_, ?_⟩
    · intro E2 C D i lv2 acc v h10 tk10 NN2 hNN2 hi hv e1 hacc H10
      obtain ⟨c, u2, hc, rfl⟩ := hv
      have hg : cs.getD i 0 = c := by
        have : cs[i]? = some c := by simpa [stS] using hc
        rw [List.getD_eq_getElem?_getD, this]; rfl
      try dsimp only
      rw [hg]
      replace e1 : lv2.lookup ("sign" : Str) = some (.str (chS c) u2) := e1
      walk1
      walk1
      walk1
      walk1
      walk1
      walk1
      rw [fnd_one]
      have hd2 : decide (c ∈ (Str.ofString " \n\"\\").cps.toList) = decide (c ∈ [32, 10, 34, 92]) := by rw [show (Str.ofString " \n\"\\").cps.toList = [32, 10, 34, 92] from by decide]
      rw [hd2]
      by_cases hm : c ∈ [32, 10, 34, 92]
      · rw [decide_eq_true hm, if_pos rfl]
        unfold esc
        rw [if_pos hm]
        walk1
        walk1
        walk1
        refine r_addS (by rw [chS_len]; decide) ?_; intro t11 tk11
        rw [bs_add]
        exact TP.mk hNN2 ⟨_, rfl⟩ (H10)
      · rw [decide_eq_false hm, if_neg Bool.false_ne_true]
        unfold esc
        rw [if_neg hm]
        walk1
        exact TP.mk hNN2 ⟨_, rfl⟩ (H10)
    · intro C D lv2 acc h10 tk10 hp H10
      rw [range_getD (esc [32, 10, 34, 92])] at hp
      refine uend_none (N := [_]) H10 fun h11 H11 => ?_
      simp only [List.cons_append, List.nil_append] at H11
      repeat' walk1
      have hpl : h11.PlainList D acc.toArray := H11.at (j := 1) (d := plainD D acc) rfl
      refine r_join hpl.isList hp (by intro z hz; obtain ⟨c, _, rfl⟩ := List.mem_map.mp hz; unfold esc; split <;> simp) (by simp; (first | lia | omega)) ?_; intro t12 tk12
      have hf := flat_len (esc_len [32, 10, 34, 92]) cs
      have hw := white_len n
      walk1
      refine r_addS (by rw [stS_len, stS_len, sizeLine_eq]; (try simp only [List.length_append, List.length_cons, List.length_nil]); (first | lia | omega)) ?_; intro t13 tk13
      rw [stS_add]
      have hn : spell cs n = (List.map (esc [32, 10, 34, 92]) cs).flatten ++ white n := by unfold spell; rw [if_pos (by (first | lia | omega))]; rfl
      rw [← hn]
      exact k _ _ _ (H11.sub (List.nil_sublist _))
  · rename Led _ _ _ _ _ => H7
    have H8 := H7.sub (.cons_cons _ (.cons _ .slnil))
    refine comp_map (β := List Nat) (K := KK w) (g := h) cs.length (fun v z => SV v (stS z)) (fun i => esc [34, 92] (cs.getD i 0)) (fun _ => []) [nsD L [(("white" : Str), .str (stS (white n)) t6), (("number" : Str), .int n u), (("word" : Str), .str (stS cs) t)]] (by (first | lia | omega)) (by intro _; rfl) (by rfl) (by rfl) (by rfl) (by rfl) (by rfl) ?_
    walk1
    refine r_iterS H8 hasc ?_; intro it h9 tk9 H9
    refine ⟨it, _, _, _, h9, tk9, rfl, rfl, itr_str (x := stS cs) (t := t) hA, H9, fun _ _ _ _ _ => trivial, ?_, ?_⟩
    · intro E2 C D i lv2 acc v h10 tk10 NN2 hNN2 hi hv e1 hacc H10
      obtain ⟨c, u2, hc, rfl⟩ := hv
      have hg : cs.getD i 0 = c := by
        have : cs[i]? = some c := by simpa [stS] using hc
        rw [List.getD_eq_getElem?_getD, this]; rfl
      try dsimp only
      rw [hg]
      replace e1 : lv2.lookup ("sign" : Str) = some (.str (chS c) u2) := e1
      walk1
      walk1
      walk1
      walk1
      walk1
      walk1
      rw [fnd_one]
      have hd2 : decide (c ∈ (Str.ofString "\"\\").cps.toList) = decide (c ∈ [34, 92]) := by rw [show (Str.ofString "\"\\").cps.toList = [34, 92] from by decide]
      rw [hd2]
      by_cases hm : c ∈ [34, 92]
      · rw [decide_eq_true hm, if_pos rfl]
        unfold esc
        rw [if_pos hm]
        walk1
        walk1
        walk1
        refine r_addS (by rw [chS_len]; decide) ?_; intro t11 tk11
        rw [bs_add]
        exact TP.mk hNN2 ⟨_, rfl⟩ (H10)
      · rw [decide_eq_false hm, if_neg Bool.false_ne_true]
        unfold esc
        rw [if_neg hm]
        walk1
        exact TP.mk hNN2 ⟨_, rfl⟩ (H10)
    · intro C D lv2 acc h10 tk10 hp H10
      rw [range_getD (esc [34, 92])] at hp
      refine uend_none (N := [_]) H10 fun h11 H11 => ?_
      simp only [List.cons_append, List.nil_append] at H11
      repeat' walk1
      have hpl : h11.PlainList D acc.toArray := H11.at (j := 1) (d := plainD D acc) rfl
      refine r_join hpl.isList hp (by intro z hz; obtain ⟨c, _, rfl⟩ := List.mem_map.mp hz; unfold esc; split <;> simp) (by simp; (first | lia | omega)) ?_; intro t12 tk12
      have hf := flat_len (esc_len [34, 92]) cs
      have hw := white_len n
      rw [show Str.ofString "\"" = stS [34] from by decide]
      refine r_addS (by rw [stS_len, stS_len, sizeLine_eq]; (try simp only [List.length_append, List.length_cons, List.length_nil]); (first | lia | omega)) ?_; intro t13 tk13
      rw [stS_add]
      walk1
      refine r_addS (by rw [stS_len, stS_len, sizeLine_eq]; (try simp only [List.length_append, List.length_cons, List.length_nil]); (first | lia | omega)) ?_; intro t14 tk14
      rw [stS_add]
      repeat' walk1
      refine r_strFrom (i := 1) H11 (by rw [stS_len]; (first | lia | omega)) (by with_unfolding_all rfl) (by intro _; with_unfolding_all rfl) ?_
      intro t15 h15 tk15 H15
      rw [white_slice]
      refine r_addS (by rw [stS_len, stS_len, sizeLine_eq]; simp only [List.length_append, List.length_cons, List.length_nil, List.length_drop]; (first | lia | omega)) ?_; intro t16 tk16
      rw [stS_add]
      have hn : spell cs n = [34] ++ (List.map (esc [34, 92]) cs).flatten ++ [34] ++ (white n).drop 1 := by unfold spell; rw [if_neg (by (first | lia | omega)), if_pos (by (first | lia | omega))]; rfl
      rw [← hn]
      exact k _ _ _ (H15.sub (List.nil_sublist _))
  · rename Led _ _ _ _ _ => H7
    have H8 := H7.sub (.cons_cons _ (.cons _ .slnil))
    refine comp_map (β := List Nat) (K := KK w) (g := h) cs.length (fun v z => SV v (stS z)) (fun i => (fun c => [92, c]) (cs.getD i 0)) (fun _ => []) [nsD L [(("white" : Str), .str (stS (white n)) t6), (("number" : Str), .int n u), (("word" : Str), .str (stS cs) t)]] (by (first | lia | omega)) (by intro _; rfl) (by rfl) (by rfl) (by rfl) (by rfl) (by rfl) ?_
    walk1
    refine r_iterS H8 hasc ?_; intro it h9 tk9 H9
    refine ⟨it, _, _, _, h9, tk9, rfl, rfl, itr_str (x := stS cs) (t := t) hA, H9, fun _ _ _ _ _ => trivial, ?_, ?_⟩
    · intro E2 C D i lv2 acc v h10 tk10 NN2 hNN2 hi hv e1 hacc H10
      obtain ⟨c, u2, hc, rfl⟩ := hv
      have hg : cs.getD i 0 = c := by
        have : cs[i]? = some c := by simpa [stS] using hc
        rw [List.getD_eq_getElem?_getD, this]; rfl
      try dsimp only
      rw [hg]
      replace e1 : lv2.lookup ("sign" : Str) = some (.str (chS c) u2) := e1
      walk1
      walk1
      walk1
      refine r_addS (by rw [chS_len]; decide) ?_; intro t11 tk11
      rw [bs_add]
      exact TP.mk hNN2 ⟨_, rfl⟩ (H10)
    · intro C D lv2 acc h10 tk10 hp H10
      rw [range_getD (fun c => [92, c])] at hp
      refine uend_none (N := [_]) H10 fun h11 H11 => ?_
      simp only [List.cons_append, List.nil_append] at H11
      repeat' walk1
      have hpl : h11.PlainList D acc.toArray := H11.at (j := 1) (d := plainD D acc) rfl
      refine r_join hpl.isList hp (by intro z hz; obtain ⟨c, _, rfl⟩ := List.mem_map.mp hz; simp) (by simp; (first | lia | omega)) ?_; intro t12 tk12
      have hf := flat_len (f := fun c => [92, c]) (fun _ => by simp) cs
      have hw := white_len n
      walk1
      refine r_addS (by rw [stS_len, stS_len, sizeLine_eq]; (try simp only [List.length_append, List.length_cons, List.length_nil]); (first | lia | omega)) ?_; intro t13 tk13
      rw [stS_add]
      have hn : spell cs n = (List.map (fun c => [92, c]) cs).flatten ++ white n := by unfold spell; rw [if_neg (by (first | lia | omega)), if_neg (by (first | lia | omega))]; rfl
      rw [← hn]
      exact k _ _ _ (H11.sub (List.nil_sublist _))
end Mine
end

section
open PySem PySem.W PySem.Calls PyProof.Rows
namespace Mine
def W4 : List (List Nat) := [[97], [98, 32, 99], [34], [92, 10]]
theorem white_ws (n : Nat) : ∀ c ∈ (white n).drop 1, isWs c = true := by
  have h : n / 3 % 4 < 4 := Nat.mod_lt _ (by decide)
  unfold white
  generalize n / 3 % 4 = m at *
  match m, h with
  | 0, _ => decide
  | 1, _ => decide
  | 2, _ => decide
  | 3, _ => decide
theorem tok_ws : ∀ (pre l : List Nat), (∀ c ∈ pre, isWs c = true) → tok (pre ++ l) = tok l
  | [], _, _ => rfl
  | c :: pre, l, h => by
    show tok (c :: (pre ++ l)) = _
    conv => lhs; unfold tok
    rw [if_pos (h c (.head _))]
    exact tok_ws pre l fun d hd => h d (.tail _ hd)
theorem tokU_cons (acc : List Nat) (c : Nat) (r : List Nat) : tokU acc (c :: r) = if isWs c then some (acc, r) else if c = 92 then (match r with | [] => none | c' :: r' => tokU (acc ++ [c']) r') else tokU (acc ++ [c]) r := by
  conv => lhs; unfold tokU
  first | done | (cases r <;> rfl)
theorem tokQ_cons (acc : List Nat) (c : Nat) (r : List Nat) : tokQ acc (c :: r) = if c = 34 then some (acc, r) else if c = 92 then (match r with | [] => none | c' :: r' => tokQ (acc ++ [c']) r') else tokQ (acc ++ [c]) r := by
  conv => lhs; unfold tokQ
  first | done | (cases r <;> rfl)
theorem tok_cons (c : Nat) (r : List Nat) : tok (c :: r) = if isWs c then tok r else if c = 34 then tokQ [] r else if c = 92 then (match r with | [] => none | c' :: r' => tokU [c'] r') else tokU [c] r := by
  conv => lhs; unfold tok
  first | done | (cases r <;> rfl)
theorem lt4 {P : Nat → Prop} (h0 : P 0) (h1 : P 1) (h2 : P 2) (h3 : P 3) : ∀ a, a < 4 → P a
  | 0, _ => h0
  | 1, _ => h1
  | 2, _ => h2
  | 3, _ => h3
theorem lt3 {P : Nat → Prop} (h0 : P 0) (h1 : P 1) (h2 : P 2) : ∀ a, a < 3 → P a
  | 0, _ => h0
  | 1, _ => h1
  | 2, _ => h2
theorem tok_spell (m n : Nat) (rest : List Nat) : tok (spell (W4.getD (m % 4) []) n ++ rest) = some (W4.getD (m % 4) [], (white n).drop 1 ++ rest) := by
  have h : m % 4 < 4 := Nat.mod_lt _ (by decide)
  have h2 : n / 3 % 4 < 4 := Nat.mod_lt _ (by decide)
  have h3 : n % 3 < 3 := Nat.mod_lt _ (by decide)
  unfold spell white
  generalize m % 4 = a at *
  generalize n / 3 % 4 = b at *
  generalize n % 3 = c at *
  revert a b c
  refine lt4 ?_ ?_ ?_ ?_ <;> refine lt4 ?_ ?_ ?_ ?_ <;> refine lt3 ?_ ?_ ?_ <;> kernel_rfl
theorem w4_ne (m : Nat) : W4.getD (m % 4) [] ≠ [] := by
  have h : m % 4 < 4 := Nat.mod_lt _ (by decide)
  generalize m % 4 = a at *
  match a, h with
  | 0, _ => decide
  | 1, _ => decide
  | 2, _ => decide
  | 3, _ => decide
theorem spell_ge (cs : List Nat) (n : Nat) : ((white n).drop 1).length ≤ (spell cs n).length := by
  unfold spell
  split
  · rw [List.length_append, List.length_drop]; (first | lia | omega)
  · split
    · simp only [List.length_append, List.length_cons, List.length_nil, List.length_drop]; (first | lia | omega)
    · rw [List.length_append, List.length_drop]; (first | lia | omega)
theorem count_nls (cs : List Nat) : Txt.count (stS cs) (chS 10) = nls cs := by
  rw [show chS 10 = (⟨#[10]⟩ : Str) from rfl, count_cnt]
  show cnt 10 cs = nls cs
  induction cs with
  | nil => rfl
  | cons c cs ih =>
    rw [nls_cons, ← ih, cnt_cons]
theorem w4_get (n : Nat) : (W4.map stS)[n % 4]? = some (stS (W4.getD (n % 4) [])) := by
  have h : n % 4 < 4 := Nat.mod_lt _ (by decide)
  generalize n % 4 = m at *
  match m, h with
  | 0, _ => rfl
  | 1, _ => rfl
  | 2, _ => rfl
  | 3, _ => rfl
theorem w4_len (n : Nat) : (W4.getD (n % 4) []).length ≤ 3 ∧ ∀ c ∈ W4.getD (n % 4) [], c < 128 := by
  have h : n % 4 < 4 := Nat.mod_lt _ (by decide)
  generalize n % 4 = m at *
  match m, h with
  | 0, _ => decide
  | 1, _ => decide
  | 2, _ => decide
  | 3, _ => decide
theorem spell_len (cs : List Nat) (n : Nat) : (spell cs n).length ≤ 2 * cs.length + 4 := by
  have h1 := flat_len (esc_len [32, 10, 34, 92]) cs
  have h2 := flat_len (esc_len [34, 92]) cs
  have h3 := flat_len (f := fun c => [92, c]) (fun _ => by simp) cs
  have h4 := white_len n
  unfold spell
  rw [List.flatMap_def, List.flatMap_def, List.flatMap_def]
  split
  · rw [List.length_append]; (first | lia | omega)
  · split
    · simp only [List.length_append, List.length_cons, List.length_nil, List.length_drop]; (first | lia | omega)
    · rw [List.length_append]; (first | lia | omega)
theorem paired_map : ∀ {acc : List Value} {zs : List (List Nat)}, Paired (fun v z => SV v (stS z)) acc zs → Paired SV acc (zs.map stS)
  | _, _, .nil => .nil
  | _, _, .cons h t => .cons h (paired_map t)
theorem r_itemZ {prog : Program} {w : World} {A : Around} {E : Value → Shared → Prop} {h : Heap} {gs : Array GenState} {dr : Drawn} {tk : Nat} {os : OsState} {value slice : PySem.Expr} {l : Addr} {vs : List Value} {xs : List Int} {k : Int} {u : Tok} {x : Int} {Q : Value → Shared → Prop} (hl : h.IsList l vs.toArray) (hp : Paired IV vs xs) (h0 : 0 ≤ k) (hhi : k < 2 ^ 63) (hx : xs[k.toNat]? = some x)
    (q : ∀ t, Q (.int x t) ⟨h, gs, dr, tk, os⟩)
    (hs : subscripted slice false (.ref l) (.int k u) = operate [.ref l, .int k u] (getItem (.ref l) (.int k u))) :
    wpAny (model prog w) A (subscriptTail value slice (.ref l) (.int k u)) Q E ⟨h, gs, dr, tk, os⟩ := by
  obtain ⟨v, hv, t, rfl⟩ := Paired.get hp hx
  exact r_item hl h0 hhi hv (q t) hs
end Mine
end

section
open PySem PySem.W PySem.Calls PyProof.Rows
namespace Mine
def lexF (w : World) (a : LA) (pbk : List Str) (ws : List (List Nat)) (T : Int) : HD where
  fp := [a.x, a.dx, a.st, a.sd, a.rd, a.cc, a.ce, a.sg, a.pb]
  P h := ∃ rest, LexP w a pbk rest T h ∧ Toks rest ws [] ∧ rest.length < 5000
  st h h' e p := by
    obtain ⟨rest, q, r⟩ := p
    exact ⟨rest, (lexD w a pbk rest T).st h h' e q, r⟩
  al h p b hb := by
    obtain ⟨rest, q, r⟩ := p
    exact (lexD w a pbk rest T).al h q b hb
section
variable {w : World} {A : Around} {g h h' : Heap} {gs : Array GenState} {dr : Drawn} {tk : Nat} {os : OsState} {R : Result → Shared → Prop} {a : LA} {pbk : List Str} {ws : List (List Nat)} {T : Int} {K : Frag} {O N : List HD}
theorem Led.toD (H : Led K h h [lexF w a pbk ws T] []) : ∃ rest, Led K h h [lexD w a pbk rest T] [] ∧ Toks rest ws [] ∧ rest.length < 5000 := by
  obtain ⟨rest, q, r1, r2⟩ : (lexF w a pbk ws T).P h := H.atO (j := 0) rfl
  exact ⟨rest, H.modO (j := 0) (d' := lexD w a pbk rest T) rfl rfl (fun _ _ _ e => e) q, r1, r2⟩
theorem Led.toF {rest : List Nat} (H : Led K h h' [lexD w a pbk rest T] []) (ht : Toks rest ws []) (hl : rest.length < 5000) : Led K h h' [lexF w a pbk ws T] [] := by
  have q : (lexD w a pbk rest T).P h' := H.atO (j := 0) rfl
  exact H.modO (j := 0) (d' := lexF w a pbk ws T) rfl rfl (fun _ _ _ e => e) ⟨rest, q, ht, hl⟩

theorem gw_call {i : Nat} {f : Str} (H : Led (KK w) h h [lexF w a (pbk.drop i) (ws.drop (i - pbk.length)) T] []) (hf : (pbk ++ ws.map stS)[i]? = some f) (hd : A.depth < 700) (hu : A.units < 700) (hA : A.handled = none) (hT : 0 ≤ T ∧ T < 100000) (hp : pbk.length < 4000)
    (k : ∀ h' tk' t, Led (KK w) h h' [lexF w a (pbk.drop (i + 1)) (ws.drop (i + 1 - pbk.length)) T] [] → R (.ok (.ret (.str f t))) ⟨h', gs, dr, tk', os⟩) :
    codeAny (model PG w) A (.call (.ref 49) ⟨[.ref a.x], []⟩) R ⟨h, gs, dr, tk, os⟩ := by
  obtain ⟨rest, H1, ht, hl⟩ := H.toD
  by_cases hi : i < pbk.length
  · rw [List.getElem?_append_left hi] at hf
    have hdr : pbk.drop i = f :: pbk.drop (i + 1) := by
      rw [List.drop_eq_getElem_cons hi]
      rw [List.getElem?_eq_getElem hi] at hf
      cases hf; rfl
    rw [hdr] at H1
    rw [show i - pbk.length = 0 by (first | lia | omega)] at ht
    refine gp_call H1 hd hu (by rw [List.length_drop]; (first | lia | omega)) fun h' tk' t H' => k h' tk' t ?_
    rw [show i + 1 - pbk.length = 0 by (first | lia | omega)]
    exact H'.toF ht hl
  · rw [List.getElem?_append_right (by (first | lia | omega)), List.getElem?_map] at hf
    have hn : pbk.drop i = [] := List.drop_eq_nil_of_le (by (first | lia | omega))
    have hn2 : pbk.drop (i + 1) = [] := List.drop_eq_nil_of_le (by (first | lia | omega))
    rw [hn] at H1
    cases hw : ws[i - pbk.length]? with
    | none => rw [hw] at hf; cases hf
    | some v =>
      rw [hw] at hf; cases hf
      have hdr : ws.drop (i - pbk.length) = v :: ws.drop (i + 1 - pbk.length) := by
        obtain ⟨hlt, e⟩ := List.getElem?_eq_some_iff.mp hw
        rw [List.drop_eq_getElem_cons hlt, e, show i + 1 - pbk.length = i - pbk.length + 1 by (first | lia | omega)]
      rw [hdr] at ht
      cases ht with
      | more h1 h2 h3 h4 =>
        refine gt_call H1 hd hu hA hl hT h1 fun h' tk' t H' => k h' tk' t ?_
        rw [hn2]
        exact H'.toF h4 (by (first | lia | omega))
theorem ge_call (H : Led (KK w) h h [lexF w a [] [] T] []) (hd : A.depth < 700) (hu : A.units < 700) (hA : A.handled = none) (hT : 0 ≤ T ∧ T < 100000)
    (k : ∀ h' tk' t, Led (KK w) h h' [lexD w a [] [] T] [] → R (.ok (.ret (.str "" t))) ⟨h', gs, dr, tk', os⟩) :
    codeAny (model PG w) A (.call (.ref 49) ⟨[.ref a.x], []⟩) R ⟨h, gs, dr, tk, os⟩ := by
  obtain ⟨rest, H1, ht, hl⟩ := H.toD
  cases ht with
  | done h1 => exact gt_call H1 hd hu hA hl hT h1 k
theorem pw_call {y : Str} {t : Tok} (H : Led (KK w) h h [lexF w a pbk ws T] []) (hd : A.depth < 700) (hu : A.units < 700) (hp : pbk.length < 4000)
    (k : ∀ h' tk', Led (KK w) h h' [lexF w a (pbk ++ [y]) ws T] [] → R (.ok (.ret .none)) ⟨h', gs, dr, tk', os⟩) :
    codeAny (model PG w) A (.call (.ref 56) ⟨[.ref a.x, .str y t], []⟩) R ⟨h, gs, dr, tk, os⟩ := by
  obtain ⟨rest, H1, ht, hl⟩ := H.toD
  exact pt_call H1 hd hu (by (first | lia | omega)) fun h' tk' H' => k h' tk' (H'.toF ht hl)
theorem Led.lexP {j : Nat} (H : Led K g h O N) (hj : O[j]? = some (lexF w a pbk ws T)) : ∃ rest, LexP w a pbk rest T h := by
  obtain ⟨rest, q, _⟩ : (lexF w a pbk ws T).P h := H.atO hj
  exact ⟨rest, q⟩
theorem Led.lexPN {j : Nat} (H : Led K g h O N) (hj : N[j]? = some (lexF w a pbk ws T)) : ∃ rest, LexP w a pbk rest T h := by
  obtain ⟨rest, q, _⟩ : (lexF w a pbk ws T).P h := H.at hj
  exact ⟨rest, q⟩
end
end Mine
namespace Mine
theorem bindL_all {kf : Str → Option NameKind} : ∀ (binds lv : List (Str × Value)), (binds.all fun x => kf x.1 == some .local) = true → bindL kf binds (fun y => lv.lookup y) = fun y => (binds.reverse ++ lv).lookup y
  | [], _, _ => rfl
  | (n, v) :: r, lv, h => by
    rw [List.all_cons, Bool.and_eq_true] at h
    have hk : kf n = some .local := eq_of_beq h.1
    have e : (fun y => if y = n then some v else lv.lookup y) = fun y => ((n, v) :: lv).lookup y := by
      funext y
      rw [List.lookup_cons]
      by_cases e : y = n
      · subst e; simp
      · rw [if_neg e, beq_eq_false_iff_ne.mpr e]
    rw [bindL, if_pos hk, e, bindL_all r _ h.2]
    simp
theorem bindL_loc {kf : Str → Option NameKind} {binds lv : List (Str × Value)} (h : (binds.all fun x => kf x.1 == some .local) = true) (hlv : binds.reverse = lv) : bindL kf binds (fun _ => none) = fun y => lv.lookup y := by
  have := bindL_all (kf := kf) binds [] h
  rw [List.append_nil, hlv] at this
  exact this
theorem all_loc {fd : FuncData} {binds : List (Str × Value)} (h : (binds.all fun x => decide (fd.scope.names.lookup x.1 = some .local)) = true) : ∀ L, ∀ x ∈ binds, fd.scope.names.lookup x.1 = some .local ∨ (fd.scope.names.lookup x.1 = some .cell ∧ ((cellsFrom L fd.scope.names []).lookup x.1).isSome = true) :=
  fun _ x hx => .inl (by simpa using List.all_eq_true.mp h x hx)
end Mine
namespace Mine
theorem bindL_mixA {kf : Str → Option NameKind} : ∀ (binds lv : List (Str × Value)), bindL kf binds (fun y => lv.lookup y) = fun y => ((binds.filter fun x => kf x.1 == some .local).reverse ++ lv).lookup y
  | [], _ => rfl
  | (n, v) :: r, lv => by
    by_cases hk : kf n = some .local
    · have e : (fun y => if y = n then some v else lv.lookup y) = fun y => ((n, v) :: lv).lookup y := by
        funext y
        rw [List.lookup_cons]
        by_cases e : y = n
        · subst e; simp
        · rw [if_neg e, beq_eq_false_iff_ne.mpr e]
      rw [bindL, if_pos hk, e, bindL_mixA r _, List.filter_cons, if_pos (by simp [hk])]
      simp
    · rw [bindL, if_neg hk, bindL_mixA r _, List.filter_cons, if_neg (by simp [hk])]
theorem bindL_mix {kf : Str → Option NameKind} {binds lv : List (Str × Value)} (hlv : (binds.filter fun x => kf x.1 == some .local).reverse = lv) : bindL kf binds (fun _ => none) = fun y => lv.lookup y := by
  have := bindL_mixA (kf := kf) binds []
  rw [List.append_nil, hlv] at this
  exact this
theorem all_mix {fd : FuncData} {binds : List (Str × Value)} (h : ∀ L, (binds.all fun x => decide (fd.scope.names.lookup x.1 = some .local) || (decide (fd.scope.names.lookup x.1 = some .cell) && ((cellsFrom L fd.scope.names []).lookup x.1).isSome)) = true) :
    ∀ L, ∀ x ∈ binds, fd.scope.names.lookup x.1 = some .local ∨ (fd.scope.names.lookup x.1 = some .cell ∧ ((cellsFrom L fd.scope.names []).lookup x.1).isSome = true) :=
  fun L x hx => by
    have := List.all_eq_true.mp (h L) x hx
    simpa using this
theorem range_take {F : List Str} {n : Nat} (h : n ≤ F.length) : (List.range n).map (fun i => F.getD i "") = F.take n := by
  apply List.ext_getElem
  · simp; (first | lia | omega)
  · intro i h1 h2
    simp at h1 h2 ⊢
    rw [List.getElem?_eq_getElem (by (first | lia | omega))]; rfl
theorem getD_some {F : List Str} {i : Nat} (h : i < F.length) : F[i]? = some (F.getD i "") := by
  rw [List.getD_eq_getElem?_getD, List.getElem?_eq_getElem h]; rfl
end Mine
namespace Mine
section
variable {prog : Program} {w : World} {A : Around} {E : Value → Shared → Prop} {K : Frag} {g h : Heap} {O N : List HD} {gs : Array GenState} {dr : Drawn} {tk : Nat} {os : OsState} {env : Env}
@[reducible] def CMN {β : Type} (prog : Program) (w : World) (A : Around) (E : Value → Shared → Prop) (K : Frag) (g : Heap) (gs : Array GenState) (dr : Drawn) (os : OsState) (env : Env) (elt : PySem.Expr) (x : Str) (scope : Scope) (cl : List (Str × Addr)) (use : Option (Value → Sem Unit)) (Q : Value → Shared → Prop)
    (n : Nat) (F : Value → β → Prop) (f : Nat → β) (OO : Nat → List HD) (N : Nat → List HD) (itv : Value) (s₂ : Shared) : Prop :=
  ∃ (it : Addr) (itD : Nat → HD) (V : Nat → Value → Prop) (S : Heap → Prop) (h₂ : Heap) (tk₂ : Nat), itv = .ref it ∧ s₂ = ⟨h₂, gs, dr, tk₂, os⟩ ∧
      Itr prog w A K g gs dr os it itD n V S ∧ Led K g h₂ (OO 0) (N 0 ++ [itD 0]) ∧ (∀ i a c h, Led K g h (OO i) (a :: (N i ++ [itD i, c])) → S h) ∧
      (∀ (E' : Value → Shared → Prop) C D i lv acc v h tk NN, NN = nsD C lv :: (N (i + 1) ++ [itD (i + 1), plainD D acc]) → i < n → V i v → lv.lookup x = some v → acc.length = i → Led K g h (OO i) (nsD C lv :: (N i ++ [itD (i + 1), plainD D acc])) →
        wpAny (model prog w) A (eval elt (compEnvC scope cl C env)) (TP K g gs dr os F (f i) (OO (i + 1)) NN) E' ⟨h, gs, dr, tk, os⟩) ∧
      (∀ C D lv acc h' tk', Paired F acc ((List.range n).map f) → Led K g h' (OO n) (nsD C lv :: (N n ++ [plainD D acc])) → UEnd (model prog w) A E use C D Q ⟨h', gs, dr, tk', os⟩)
theorem comp_mapN {β : Type} {elt iter : PySem.Expr} {x : Str} {px : Pos} {scope : Scope} {pos : Pos} {cl : List (Str × Addr)} {use : Option (Value → Sem Unit)} {Q : Value → Shared → Prop}
    (n : Nat) (F : Value → β → Prop) (f : Nat → β) (OO : Nat → List HD) (N : Nat → List HD) (hn : n < 8000)
    (hs : ∀ x, foldedSetIterable iter env x = pure x) (hclos : closureFor scope env = pure cl) (hcell : (scope.names.all fun x => x.2 != .cell) = true) (hkind : scope.kind = .function)
    (hnames : (scope.names.all fun x => decide (x.2 = .local → scope.names.lookup x.1 = some .local)) = true) (hx : scope.names.lookup x = some .local)
    (hq : wpAny (model prog w) A (eval iter env) (fun xv s₁ => wpAny (model prog w) A (pyIter xv) (CMN prog w A E K g gs dr os env elt x scope cl use Q n F f OO N) E s₁) E ⟨h, gs, dr, tk, os⟩) :
    wpAny (model prog w) A (comprehension (.ListComp elt [⟨.Name x px, iter, [], 0⟩] scope pos) scope env (firstIterPos [⟨.Name x px, iter, [], 0⟩] pos) (newList []) false (eval iter env) use) Q E ⟨h, gs, dr, tk, os⟩ := by
  refine comp_core (K := K) hs hclos hcell hkind hnames (wpAny_mono hq (fun xv s₁ h₁ => wpAny_mono h₁ (fun itv s₂ h₂ => ?_) fun _ _ e => e) fun _ _ e => e)
  obtain ⟨it, itD, V, S, h₂, tk₂, rfl, rfl, W, H2, hS, turn, fin⟩ := h₂
  refine ⟨g, h₂, tk₂, OO 0, N 0 ++ [itD 0], rfl, H2, by intro _; rfl, fun C D h₃ tk₃ H3 => ?_⟩
  have e0 : N 0 ++ [itD 0] ++ [plainD D []] = N 0 ++ [itD 0, plainD D []] := by simp
  rw [e0] at H3
  obtain ⟨I, hI⟩ : ∃ I : Nat → Heap → Prop, I = (fun m h' => ∃ i lv acc, m = n - i ∧ i ≤ n ∧ acc.length = i ∧ Paired F acc ((List.range i).map f) ∧ Led K g h' (OO i) (nsD C lv :: (N i ++ [itD i, plainD D acc]))) := ⟨_, rfl⟩
  refine ⟨fun Q E' q => W.self (j := (N 0).length + 1) H3 mid_get q, I, n, I_mk hI ⟨0, [], [], by (first | lia | omega), by (first | lia | omega), rfl, .nil, H3⟩, ?_⟩
  intro E' m h tk hJ
  obtain ⟨i, lv, acc, rfl, hi, hacc, hp, H⟩ := I_out hI hJ
  clear hJ
  by_cases hlt : i < n
  · refine W.next (j := (N i).length + 1) H mid_get (hS _ _ _ _ H) hlt (fun v h' tk' hv H' => ?_)
    rw [mid_set] at H'
    refine wpAny_assign_Name (r_sto (L := C) (lv := lv) H' (by rfl) (by rfl) (by show (relabel scope env).kind = _; simp [relabel, hkind]) (lookup_relabel_local hx) (fun h'' tk'' H'' => ?_))
    simp only [List.set_cons_zero] at H''
    refine wpAny_tests_nil ?_
    rw [if_pos rfl]
    refine wpAny_mono (turn E' C D i _ acc v h'' tk'' _ rfl hlt hv (by simp) hacc H'') (fun y s hy => ?_) fun _ _ e => e
    obtain ⟨h3, tk3, rfl, hF, H4⟩ := hy
    have hpl : h3.PlainList D acc.toArray := H4.at (j := (N (i + 1)).length + 2) (d := plainD D acc) last_get
    refine wpAny_list_append_plain hpl (fun h4 hp4 hs4 => ?_) (by simp [sizeLine]; (first | lia | omega))
    have H5 := H4.mod (j := (N (i + 1)).length + 2) (d' := plainD D (acc ++ [y])) last_get rfl (sameBut_e hs4) (by simpa [plainD] using hp4)
    rw [last_set] at H5
    exact Nx.mk (m := n - (i + 1)) (by (first | lia | omega)) (I_mk hI ⟨i + 1, _, acc ++ [y], rfl, by (first | lia | omega), by simp [hacc], by rw [range_succ_map]; exact Paired.app hp (.cons hF .nil), H5⟩)
  · have hin : i = n := by (first | lia | omega)
    subst hin
    refine W.stop (j := (N i).length + 1) H mid_get (hS _ _ _ _ H) (fun h' tk' H' => ?_)
    rw [mid_erase] at H'
    exact fin C D lv acc h' tk' hp H'

end
end Mine
namespace Mine
section
variable {prog : Program} {w : World} {A : Around} {E : Value → Shared → Prop} {K : Frag} {g h : Heap} {O N : List HD} {gs : Array GenState} {dr : Drawn} {tk : Nat} {os : OsState} {env : Env}
theorem r_appRows {B1 B2 : List HD} {a D : Addr} {as : List Addr} {rs : List (List Str)} {xs : List Str} {Q : Value → Shared → Prop} (H : Led K g h O (B1 ++ rowsD a as rs :: (B2 ++ [strsD D xs]))) (hsz : as.length < 5000)
    (q : ∀ h', Led K g h' O (B1 ++ rowsD a (as ++ [D]) (rs ++ [xs]) :: B2) → Q .none ⟨h', gs, dr, tk, os⟩) : wpAny (model prog w) A (call (.builtin "list.append") [.ref a, .ref D]) Q E ⟨h, gs, dr, tk, os⟩ := by
  have hj : (B1 ++ rowsD a as rs :: (B2 ++ [strsD D xs]))[B1.length]? = some (rowsD a as rs) := by
    rw [List.getElem?_append_right (Nat.le_refl _), Nat.sub_self]; rfl
  have hj2 : strsD D xs ∈ B1 ++ rowsD a as rs :: (B2 ++ [strsD D xs]) := by simp
  obtain ⟨q1, q2⟩ : (rowsD a as rs).P h := H.at hj
  have nd := H.nd
  have hfp : (B1 ++ rowsD a as rs :: (B2 ++ [strsD D xs])).flatMap HD.fp = B1.flatMap HD.fp ++ (a :: as ++ (B2.flatMap HD.fp ++ [D])) := by
    simp [rowsD, strsD]
  have nra : a ∉ as := by
    rw [List.flatMap_append, hfp] at nd
    have h1 := (List.nodup_append.mp (List.nodup_append.mp nd).2.1).2.1
    exact (List.nodup_cons.mp (List.nodup_append.mp h1).1).1
  refine w_app q1 (by simp; (first | lia | omega)) fun h' hl' hs' => q h' ?_
  have H1 := H.mod (d' := rowsX a (as.map Value.ref ++ [.ref D]) as rs) hj rfl (fun b o hb e => hs'.extBut b o (fun q => hb (by rw [q]; simp [rowsD])) e)
    ⟨hl', rows_keep (fun b hb o e => hs'.extBut b o (fun q => nra (q ▸ hb)) e) q2⟩
  have hset : (B1 ++ rowsD a as rs :: (B2 ++ [strsD D xs])).set B1.length (rowsX a (as.map Value.ref ++ [.ref D]) as rs) = B1 ++ rowsX a (as.map Value.ref ++ [.ref D]) as rs :: (B2 ++ [strsD D xs]) := by
    rw [List.set_append_right _ _ (Nat.le_refl _), Nat.sub_self]; rfl
  rw [hset] at H1
  obtain ⟨z1, z2⟩ : (rowsX a (as.map Value.ref ++ [.ref D]) as rs).P h' := H1.has (by simp)
  obtain ⟨vD, z3, z4⟩ : (strsD D xs).P h' := H1.has (by simp)
  have hfp2 : (B1 ++ rowsD a (as ++ [D]) (rs ++ [xs]) :: B2).flatMap HD.fp = B1.flatMap HD.fp ++ (a :: (as ++ [D]) ++ B2.flatMap HD.fp) := by
    simp [rowsD]
  have hfp3 : (B1 ++ rowsX a (as.map Value.ref ++ [.ref D]) as rs :: (B2 ++ [strsD D xs])).flatMap HD.fp = B1.flatMap HD.fp ++ (a :: as ++ (B2.flatMap HD.fp ++ [D])) := by
    simp [rowsX, strsD]
  have hperm : (B1.flatMap HD.fp ++ (a :: as ++ (B2.flatMap HD.fp ++ [D]))).Perm (B1.flatMap HD.fp ++ (a :: (as ++ [D]) ++ B2.flatMap HD.fp)) := by
    refine List.Perm.append_left _ ?_
    rw [List.cons_append, List.cons_append, List.append_assoc]
    refine List.Perm.cons _ (List.Perm.append_left _ ?_)
    exact List.perm_append_comm
  refine H1.regroup (fun d hd => ?_) (fun b hb => ?_) ?_
  · rcases List.mem_append.mp hd with hd | hd
    · exact H1.has (List.mem_append_left _ hd)
    · rcases List.mem_cons.mp hd with rfl | hd
      · exact ⟨by rw [List.map_append]; exact z1, Paired.app z2 (.cons ⟨vD, z3, z4⟩ .nil)⟩
      · exact H1.has (by simp [hd])
  · rw [hfp2] at hb
    rw [hfp3]
    exact hperm.symm.subset hb
  · rw [hfp2]
    have nd1 := H1.nd
    rw [List.flatMap_append, hfp3] at nd1
    exact hperm.nodup_iff.mp (List.nodup_append.mp nd1).2.1
end
end Mine
end

section
open PySem PySem.W PySem.Calls PyProof.Rows
namespace Mine


end Mine
end
local macro_rules | `(tactic| walk_at "storeName") => `(tactic| ((first | refine r_stoC (j := 1) (by assumption) (by rfl) (by rfl) (by rfl) (by rfl) ?_ | refine r_stoC (j := 2) (by assumption) (by rfl) (by rfl) (by rfl) (by rfl) ?_ | refine r_stoC (j := 3) (by assumption) (by rfl) (by rfl) (by rfl) (by rfl) ?_ | refine r_stoC (j := 4) (by assumption) (by rfl) (by rfl) (by rfl) (by rfl) ?_ | refine r_stoC (j := 5) (by assumption) (by rfl) (by rfl) (by rfl) (by rfl) ?_ | refine r_stoC (j := 6) (by assumption) (by rfl) (by rfl) (by rfl) (by rfl) ?_ | refine r_stoC (j := 7) (by assumption) (by rfl) (by rfl) (by rfl) (by rfl) ?_ | refine r_stoC (j := 8) (by assumption) (by rfl) (by rfl) (by rfl) (by rfl) ?_ | refine r_stoC (j := 9) (by assumption) (by rfl) (by rfl) (by rfl) (by rfl) ?_ | refine r_stoC (j := 10) (by assumption) (by rfl) (by rfl) (by rfl) (by rfl) ?_ | refine r_stoC (j := 11) (by assumption) (by rfl) (by rfl) (by rfl) (by rfl) ?_); intro h' H'; (try simp only [List.cons_append, List.nil_append, List.set_cons_zero, List.set_cons_succ] at H')))
section
open PySem PySem.W PySem.Calls PyProof.Rows
namespace Mine
def stp (xs : List Str) : Nat := xs.length - (ovT xs).getD (xs.length - 1) 0
def rootF (xs : List Str) : Nat := if xs.length % stp xs = 0 then stp xs else xs.length
theorem stp_pos {xs : List Str} (h : 0 < xs.length) : 0 < stp xs ∧ stp xs ≤ xs.length := by
  have : (ovT xs).getD (xs.length - 1) 0 ≤ xs.length - 1 := ovRun_le _ _ _
  unfold stp; (first | lia | omega)
set_option maxRecDepth 100000 in
set_option maxHeartbeats 8000000 in
theorem ro_call {w : World} {A : Around} {h : Heap} {gs : Array GenState} {dr : Drawn} {tk : Nat} {os : OsState} {R : Result → Shared → Prop} {l : Addr} {vs : List Value} {xs : List Str}
    (G : Gd (KK w) h) (hl : h.IsList l vs.toArray) (hp : Paired SV vs xs) (hd : A.depth < 600) (hu : A.units < 600) (hA : A.handled = none) (hsz : xs.length < 900) (hne : 0 < xs.length)
    (k : ∀ t h' tk', Led (KK w) h h' [] [] → R (.ok (.ret (.int (rootF xs) t))) ⟨h', gs, dr, tk', os⟩) :
    codeAny (model PG w) A (.call (.ref 99) ⟨[.ref l], []⟩) R ⟨h, gs, dr, tk, os⟩ := by
  have hn := hp.length
  refine r_enter (lv := [(("line" : Str), .ref l)]) (Led.start G) (Nat.lt_of_lt_of_le hd (by decide)) rfl rfl rfl rfl rfl rfl rfl rfl rfl rfl ?_
  intro E' L h₁ tk₁ H1
  repeat' walk1
  refine r_len (H1.blist hl) (by (first | lia | omega)) ?_; intro t2 tk2
  rw [hn]
  repeat' walk1
  refine callWith_K (K := KK w) H1.gd.frag (by rfl) ?_
  walk1
  walk1
  walk1
  refine ⟨H1.gd.frag, ?_⟩
  refine wpAny_call (ov_call H1.gd (by rw [deeper_depth']; (first | lia | omega)) (by rw [deeper_units']; (first | lia | omega)) hA (H1.blist hl) hp (by (first | lia | omega)) ?_); intro h4 tk4 a4 H4
  have H5 := H1.backNw H4
  simp only [List.cons_append, List.nil_append] at H5
  clear H1 H4
  dsimp only
  repeat' walk1
  have hlen : (ovT xs).length = xs.length := ovT_len xs
  have hlez : (zs (ovT xs)).length = xs.length := by rw [zs_len]; exact hlen
  have hle : (ovT xs).getD (xs.length - 1) 0 ≤ xs.length - 1 := ovRun_le _ _ _
  refine r_lastI (j := 1) H5 (by rfl) (by (first | lia | omega)) (by (first | lia | omega)) (by rw [hlez]; exact zs_get (k := xs.length - 1) (by (first | lia | omega))) ?_ (by rfl); intro t7
  refine r_sub ?_; intro t8 tk8
  rw [show ((xs.length : Nat) : Int) - (((ovT xs).getD (xs.length - 1) 0 : Nat) : Int) = ((stp xs : Nat) : Int) by unfold stp; (first | lia | omega)]
  have hst := stp_pos hne
  repeat' walk1
  rename Led _ _ _ _ _ => H9
  refine r_len (H9.blist hl) (by (first | lia | omega)) ?_; intro t10 tk10
  rw [hn]
  walk1
  refine r_mod (by (first | lia | omega)) ?_; intro t11 tk11
  have hmod : ((xs.length : Nat) : Int) % ((stp xs : Nat) : Int) = ((xs.length % stp xs : Nat) : Int) := by simp
  rw [hmod]
  repeat' walk1
  · rename _ = _ => hq
    have hq : xs.length % stp xs = 0 := Int.ofNat.inj hq
    have e : rootF xs = stp xs := by unfold rootF; rw [if_pos hq]
    rw [← e]
    exact k _ _ _ (H9.sub (List.nil_sublist _))
  · rename _ ≠ _ => hq
    have hq : ¬ xs.length % stp xs = 0 := fun e => hq (by rw [e]; rfl)
    refine r_len (H9.blist hl) (by (first | lia | omega)) ?_; intro t12 tk12
    have e : rootF xs = xs.length := by unfold rootF; rw [if_neg hq]
    rw [hn, ← e]
    exact k _ _ _ (H9.sub (List.nil_sublist _))
theorem getD_map_range3 (l : List (List Nat)) : (List.range l.length).map (fun i => l.getD i []) = l := by
  apply List.ext_getElem
  · simp
  · intro i h1 h2
    simp at h1 h2 ⊢
    rw [List.getElem?_eq_getElem h2]; rfl
theorem flat1 {α : Type} : ∀ l : List α, (l.map fun x => [x]).flatten = l
  | [] => rfl
  | x :: l => by rw [List.map_cons, List.flatten_cons, flat1 l]; rfl
def wrt (ws : List (List Nat)) : List Nat := ws.map fun wd => wd.getD 0 0
theorem item0 (wd : List Nat) (h : wd ≠ []) : Txt.item (stS wd) 0 = stS [wd.getD 0 0] := by
  cases wd with
  | nil => exact absurd rfl h
  | cons c r =>
    unfold Txt.item Txt.charAt
    simp [stS, seqIndex?, Str.length]
set_option maxRecDepth 100000 in
set_option maxHeartbeats 8000000 in
theorem wr_call {w : World} {A : Around} {h : Heap} {gs : Array GenState} {dr : Drawn} {tk : Nat} {os : OsState} {R : Result → Shared → Prop} {l : Addr} {vs : List Value} {ws : List (List Nat)}
    (G : Gd (KK w) h) (hl : h.IsList l vs.toArray) (hp : Paired SV vs (ws.map stS)) (hne : ∀ wd ∈ ws, wd ≠ []) (hd : A.depth < 600) (hu : A.units < 600) (hA : A.handled = none) (hsz : ws.length < 900)
    (k : ∀ t h' tk', Led (KK w) h h' [] [] → R (.ok (.ret (.str (stS (wrt ws)) t))) ⟨h', gs, dr, tk', os⟩) :
    codeAny (model PG w) A (.call (.ref 104) ⟨[.ref l], []⟩) R ⟨h, gs, dr, tk, os⟩ := by
  have hn := hp.length
  rw [List.length_map] at hn
  refine r_enter (lv := [(("words" : Str), .ref l)]) (Led.start G) (Nat.lt_of_lt_of_le hd (by decide)) rfl rfl rfl rfl rfl rfl rfl rfl rfl rfl ?_
  intro E' L h₁ tk₁ H1
  repeat' walk1
  refine comp_map (β := List Nat) (K := KK w) (g := h) vs.length (fun v z => SV v (stS z)) (fun i => [(ws.getD i []).getD 0 0]) (fun _ => []) [nsD L [(("words" : Str), .ref l)]]
    (by (first | lia | omega)) (by intro _; rfl) (by rfl) (by rfl) (by rfl) (by rfl) (by rfl) ?_
  repeat' walk1
  refine r_iterL H1 (H1.blist hl) ?_; intro it2 h2 tk2 H2
  refine ⟨it2, _, _, _, h2, tk2, rfl, rfl, itr_list (items := vs) hA, H2, fun _ _ _ _ H' => H'.blist hl, ?_, ?_⟩
  · clear H1 H2
    intro E2 C D i lv acc v h3 tk3 NN2 hNN2 hi hv e1 hacc H3
    have hget : ws[i]? = some (ws.getD i []) := by rw [List.getD_eq_getElem?_getD, List.getElem?_eq_getElem (by (first | lia | omega))]; rfl
    obtain ⟨v', hv', t4, rfl⟩ := Paired.get hp (i := i) (y := stS (ws.getD i [])) (by rw [List.getElem?_map, hget]; rfl)
    rw [hv'] at hv
    cases hv
    have hw := hne _ (List.mem_of_getElem? hget)
    repeat' walk1
    have hwl : 0 < (ws.getD i []).length := List.length_pos_iff.mpr hw
    refine PyProof.Rows.item_str (s := ⟨h3, gs, dr, _, os⟩) (by decide) (by (first | lia | omega)) (by rw [stS_len]; (first | lia | omega)) (fun _ => ?_)
    rw [item0 _ hw]
    exact TP.mk hNN2 ⟨_, rfl⟩ (H3)
  · clear H1 H2
    intro C D lv acc h3 tk3 hp3 H3
    refine uend_none (N := [_]) H3 fun h4 H4 => ?_
    simp only [List.cons_append, List.nil_append] at H4
    repeat' walk1
    have hpl : h4.PlainList D acc.toArray := H4.at (j := 1) (d := plainD D acc) rfl
    refine r_join hpl.isList hp3 (by intro z hz; obtain ⟨i, _, rfl⟩ := List.mem_map.mp hz; simp) (by simp; (first | lia | omega)) ?_; intro t5 tk5
    have e : ((List.range vs.length).map fun i => [(ws.getD i []).getD 0 0]).flatten = wrt ws := by
      rw [hn]
      unfold wrt
      have := congrArg (List.map fun wd : List Nat => [wd.getD 0 0]) (getD_map_range3 ws)
      rw [List.map_map] at this
      have e2 : (List.range ws.length).map (fun i => [(ws.getD i []).getD 0 0]) = ws.map fun wd => [wd.getD 0 0] := this
      rw [e2]
      have e3 : (ws.map fun wd : List Nat => [wd.getD 0 0]) = (ws.map fun wd => wd.getD 0 0).map fun x => [x] := by rw [List.map_map]; rfl
      rw [e3, flat1]
    rw [e]
    exact k _ _ _ (H4.sub (List.nil_sublist _))
end Mine
end

section
open PySem PySem.W PySem.Calls PyProof.Rows
namespace Mine


abbrev LL := List (List Nat)
def ovL (l : LL) : List Nat := ovT (l.map stS)
def farF (l : LL) : Nat → Nat → Nat
  | 0, far => far
  | f + 1, far => if far < l.length ∧ ¬ (l.getD far [] < l.getD ((ovL l).getD (far - 1) 0) []) then farF l f (far + 1) else far
def far (l : LL) : Nat := farF l l.length 1
def stpF (l : LL) : Nat := far l - (ovL l).getD (far l - 1) 0
def qF (l : LL) : Nat := far l / stpF l
def pcsF : Nat → LL → List LL
  | 0, _ => []
  | f + 1, l => if l = [] then [] else (List.range (qF l)).map (fun i => (l.drop (i * stpF l)).take (stpF l)) ++ pcsF f (l.drop (qF l * stpF l))
def pcs (l : LL) : List LL := pcsF l.length l
theorem farF_le (l : LL) : ∀ f far, far ≤ l.length → far ≤ farF l f far ∧ farF l f far ≤ l.length
  | 0, far, h => by rw [farF]; (first | lia | omega)
  | f + 1, far, h => by
    rw [farF]
    split
    · rename_i hc
      have := farF_le l f (far + 1) (by (first | lia | omega))
      (first | lia | omega)
    · (first | lia | omega)
theorem far_le {l : LL} (h : 0 < l.length) : 1 ≤ far l ∧ far l ≤ l.length := farF_le l l.length 1 (by (first | lia | omega))
theorem stpF_pos {l : LL} (h : 0 < l.length) : 0 < stpF l ∧ stpF l ≤ far l := by
  have h1 := far_le h
  have : (ovL l).getD (far l - 1) 0 ≤ far l - 1 := ovRun_le _ _ _
  unfold stpF; (first | lia | omega)
theorem qF_pos {l : LL} (h : 0 < l.length) : 0 < qF l ∧ qF l * stpF l ≤ l.length := by
  have h1 := far_le h
  have h2 := stpF_pos h
  refine ⟨Nat.div_pos h2.2 h2.1, ?_⟩
  have := Nat.div_mul_le_self (far l) (stpF l)
  unfold qF; (first | lia | omega)
theorem Led.lexP0 {K : Frag} {g h : Heap} {w : World} {a : LA} {F : List Str} {T : Int} {N : List HD} (H : Led K g h [lexF w a F [] T] N) : Led K g h [lexF w a (F.drop 0) (List.drop (0 - F.length) []) T] N := by simpa using H
theorem ringE (m r : LL) (j st : Nat) (h : j + st ≤ m.length) : (m.drop j ++ (r ++ m.take j)).drop st ++ (m.drop j ++ (r ++ m.take j)).take st = m.drop (j + st) ++ (r ++ m.take (j + st)) := by
  have h1 : st ≤ (m.drop j).length := by rw [List.length_drop]; (first | lia | omega)
  rw [List.drop_append_of_le_length h1, List.take_append_of_le_length h1, List.drop_drop, List.take_add]
  simp
def WT (Pt Pf : Prop) (h : Heap) (gs : Array GenState) (dr : Drawn) (os : OsState) (b : Bool) (s : Shared) : Prop := ∃ tk, s = ⟨h, gs, dr, tk, os⟩ ∧ ((b = true ∧ Pt) ∨ (b = false ∧ Pf))
theorem z_ring {ml ll kk a : Nat} (h1 : ml = ll - kk) (h2 : kk ≤ ll) (h3 : a ≤ ml) : ml - a + (min kk ll + min a ml) = ll := by (first | lia | omega)
theorem z_dec {a b n : Nat} (h : n = a - b) (h2 : b < a) : a - (b + 1) < n := by (first | lia | omega)
theorem z_left {ml ll kk a : Nat} (h1 : ml = ll - kk) (h2 : kk ≤ ll) (h3 : a ≤ ml) : ((ml : Nat) : Int) - ((a : Nat) : Int) = ((ll - (kk + a) : Nat) : Int) := by (first | lia | omega)
set_option maxRecDepth 100000 in
set_option maxHeartbeats 8000000 in
theorem pc_call {w : World} {A : Around} {h : Heap} {gs : Array GenState} {dr : Drawn} {tk : Nat} {os : OsState} {R : Result → Shared → Prop} {a : LA} {l : LL} {T : Int}
    (H : Led (KK w) h h [lexF w a (l.map stS) [] T] []) (hd : A.depth < 600) (hu : A.units < 600) (hA : A.handled = none) (hT : 0 ≤ T ∧ T < 100000) (hl : l.length < 100)
    (k : ∀ D as h' tk', Led (KK w) h h' [lexF w a (l.map stS) [] T] [rowsD D as ((pcs l).map (List.map stS))] → R (.ok (.ret (.ref D))) ⟨h', gs, dr, tk', os⟩) :
    codeAny (model PG w) A (.call (.ref 85) ⟨[.ref a.x], []⟩) R ⟨h, gs, dr, tk, os⟩ := by
  refine r_enterN (binds := [("lexer", .ref a.x)]) (lv := []) (D := fun L => [cellD (L + 1) (some (.ref a.x))]) (ns := ["lexer"]) H (Nat.lt_of_lt_of_le hd (by decide)) rfl rfl rfl rfl rfl (by intro _; rfl) (by decide) (by intro _; rfl) (all_mix (by intro _; rfl)) (by intro _; exact bindL_mix (by rfl)) rfl rfl rfl ?_
  intro E' L h₁ tk₁ H1
  repeat' walk1
  rename_i pD h2 tk2 H2 h3 tk3 H3
  clear H1 H2
  have H4 := H3.conv (j := 2) (d' := rowsD pD [] []) (by rfl) (by rfl) (fun p => ⟨p, .nil⟩)
  simp only [List.set_cons_zero, List.set_cons_succ] at H4
  clear H3
  obtain ⟨rest4, L4⟩ := H4.lexP (j := 0) rfl
  refine r_pbA H4.gd L4 ?_; intro tk5
  obtain ⟨v5, l5, p5⟩ := L4.pb
  have hv5 := p5.length
  rw [List.length_map] at hv5
  walk1
  refine r_len l5.isList (by (first | lia | omega)) ?_; intro t6 tk6
  rw [hv5]
  clear L4 l5 p5 v5 hv5
  repeat' walk1
  rename_i h7 tk7 H7
  clear H4
  obtain ⟨I0, hI0⟩ : ∃ I : Nat → Heap → Prop, I = (fun n h' => ∃ (lv : List (Str × Value)) (k f : Nat) (P : List LL) (as : List Addr) (t : Tok), n = l.length - k ∧ k ≤ l.length ∧ l.length - k ≤ f ∧ P ++ pcsF f (l.drop k) = pcs l ∧ as.length ≤ k ∧
      Led (KK w) h h' [lexF w a ((l.drop k ++ l.take k).map stS) [] T] [nsD L lv, cellD (L + 1) (some (.ref a.x)), rowsD pD as (P.map (List.map stS))] ∧ lv.lookup ("left" : Str) = some (.int ((l.length - k : Nat) : Int) t) ∧ lv.lookup ("pieces" : Str) = some (.ref pD)) := ⟨_, rfl⟩
  refine r_while I0 l.length (I_mk hI0 ⟨_, 0, l.length, [], [], t6, rfl, by (first | lia | omega), by (first | lia | omega), by simp [pcs], by simp, by simpa using H7, by rfl, by rfl⟩) ?_
  clear H7
  intro E2 n h8 tk8 hJ8
  refine ex6_8 (I_out hI0 hJ8) ?_
  intro lv kk f P as t8 hn hk hf hP has H8 e1 e2
  clear hJ8
  repeat' walk1
  · rename _ < _ => hlt
    have hlt : kk < l.length := by (first | lia | omega)
    obtain ⟨rest9, L9⟩ := H8.lexP (j := 0) rfl
    refine r_pbA H8.gd L9 ?_; intro tk10
    repeat' walk1
    obtain ⟨v11, l11, p11⟩ := L9.pb
    refine r_upto H8 l11.isList p11 (by rw [List.length_map, List.length_append, List.length_drop, List.length_take]; (first | lia | omega)) (by (first | lia | omega)) (by rfl) ?_; intro D12 h12 tk12 H12
    simp only [List.cons_append, List.nil_append, Int.toNat_natCast] at H12
    have htk : ((l.drop kk ++ l.take kk).map stS).take (l.length - kk) = (l.drop kk).map stS := by
      rw [← List.map_take, List.take_append_of_le_length (by rw [List.length_drop]; (first | lia | omega)), List.take_of_length_le (by rw [List.length_drop]; (first | lia | omega))]
    rw [htk] at H12
    have hml : (l.drop kk).length = l.length - kk := List.length_drop
    clear H8 L9 l11 p11 htk
    rw [← hml] at e1
    generalize hm : l.drop kk = m at *
    have hm0 : 0 < m.length := by (first | lia | omega)
    repeat' walk1
    rename Led _ _ _ _ _ => H13
    clear H12
    refine callWith_K (K := KK w) H13.gd.frag (by rfl) ?_
    walk1
    walk1
    walk1
    refine ⟨H13.gd.frag, ?_⟩
    obtain ⟨v13, l13, p13⟩ := H13.strs (j := 3) (by rfl)
    refine wpAny_call (ov_call H13.gd (by rw [deeper_depth']; (first | lia | omega)) (by rw [deeper_units']; (first | lia | omega)) hA l13.isList p13 (by rw [List.length_map]; (first | lia | omega)) ?_); intro h14 tk14 tD H14
    have H15 := H13.backNw H14
    simp only [List.cons_append, List.nil_append] at H15
    clear H13 H14 l13 p13
    dsimp only
    repeat' walk1
    rename_i tf16 _ h16 tk16 H16
    clear H15
    have hol : (ovL m).length = m.length := by unfold ovL; rw [ovT_len, List.length_map]
    have hole : ∀ x, (ovL m).getD x 0 ≤ x := fun x => ovRun_le _ _ _
    change Led (KK w) h h16 [lexF w a ((m ++ l.take kk).map stS) [] T] [nsD L _, cellD (L + 1) (some (.ref a.x)), rowsD pD as (P.map (List.map stS)), strsD D12 (m.map stS), intsD tD (zs (ovL m))] at H16
    obtain ⟨I1, hI1⟩ : ∃ I : Nat → Heap → Prop, I = (fun n h' => ∃ (lv : List (Str × Value)) (fr f' : Nat) (tf t8 : Tok), n = m.length - fr ∧ 1 ≤ fr ∧ fr ≤ m.length ∧ f' + fr = m.length + 1 ∧ farF m f' fr = far m ∧
        Led (KK w) h h' [lexF w a ((m ++ l.take kk).map stS) [] T] [nsD L lv, cellD (L + 1) (some (.ref a.x)), rowsD pD as (P.map (List.map stS)), strsD D12 (m.map stS), intsD tD (zs (ovL m))] ∧
        lv.lookup ("left" : Str) = some (.int ((m.length : Nat) : Int) t8) ∧ lv.lookup ("pieces" : Str) = some (.ref pD) ∧ lv.lookup ("line" : Str) = some (.ref D12) ∧ lv.lookup ("table" : Str) = some (.ref tD) ∧ lv.lookup ("far" : Str) = some (.int ((fr : Nat) : Int) tf)) := ⟨_, rfl⟩
    refine r_while I1 (m.length - 1) (I_mk hI1 ⟨_, 1, m.length, tf16, t8, rfl, by (first | lia | omega), by (first | lia | omega), by (first | lia | omega), rfl, H16, by exact e1, by exact e2, by rfl, by rfl, by rfl⟩) ?_
    clear H16 e1 e2
    intro E3 n3 h17 tk17 hJ17
    refine ex5_11 (I_out hI1 hJ17) ?_
    intro lv fr f' tf t8 hn3 hf1 hf2 hf3 hf4 H17 e1 e2 e3 e4 e5
    clear hJ17
    have hget : ∀ x, x < m.length → m[x]? = some (m.getD x []) := fun x hx => by rw [List.getD_eq_getElem?_getD, List.getElem?_eq_getElem hx]; rfl
    refine wpAny_mono (Q := WT (fr < m.length ∧ ¬ m.getD fr [] < m.getD ((ovL m).getD (fr - 1) 0) []) (far m = fr) h17 gs dr os) ?_ (fun bb s hbb => ?_) (fun _ _ e => e)
    · repeat' walk1
      · rename _ < _ => hfl
        have hfl : fr < m.length := by (first | lia | omega)
        obtain ⟨v18, l18, p18⟩ := H17.strs (j := 3) (by rfl)
        refine r_itemS l18.isList p18 (by (first | lia | omega)) (by (first | lia | omega)) (x := stS (m.getD fr [])) (by rw [Int.toNat_natCast, List.getElem?_map, hget fr hfl]; rfl) ?_ (by with_unfolding_all rfl); intro t19
        repeat' walk1
        have hox := hole (fr - 1)
        refine r_itemI (j := 4) H17 (by rfl) (by (first | lia | omega)) (by (first | lia | omega)) (by rw [show (((fr : Nat) : Int) - 1).toNat = fr - 1 by (first | lia | omega)]; exact zs_get (k := fr - 1) (by (first | lia | omega))) ?_ (by with_unfolding_all rfl); intro t20
        refine r_itemS l18.isList p18 (by (first | lia | omega)) (by (first | lia | omega)) (x := stS (m.getD ((ovL m).getD (fr - 1) 0) [])) (by rw [Int.toNat_natCast, List.getElem?_map, hget _ (by (first | lia | omega))]; rfl) ?_ (by with_unfolding_all rfl); intro t21
        clear l18 p18
        repeat' walk1
        · rename _ < _ => hcmp
          have hcmp : m.getD fr [] < m.getD ((ovL m).getD (fr - 1) 0) [] := hcmp
          exact ⟨_, rfl, .inr ⟨rfl, by
            rw [← hf4]
            cases f' with
            | zero => (first | lia | omega)
            | succ f' => rw [farF, if_neg (fun hc => hc.2 hcmp)]⟩⟩
        · rename ¬ _ => hcmp
          exact ⟨_, rfl, .inl ⟨rfl, hfl, hcmp⟩⟩
      · rename ¬ _ => hfl
        have hfe : fr = m.length := by (first | lia | omega)
        exact ⟨_, rfl, .inr ⟨rfl, by
          rw [← hf4]
          cases f' with
          | zero => (first | lia | omega)
          | succ f' => rw [farF, if_neg (fun hc => by have := hc.1; (first | lia | omega))]⟩⟩
    obtain ⟨tk18, rfl, ⟨rfl, hfl, hcmp⟩ | ⟨rfl, hfar⟩⟩ := hbb
    · repeat' walk1
      rename Led _ _ _ _ _ => H18
      obtain ⟨f', rfl⟩ : ∃ f2, f' = f2 + 1 := ⟨f' - 1, by (first | lia | omega)⟩
      rw [farF, if_pos ⟨hfl, hcmp⟩] at hf4
      exact Nx.mk (m := m.length - (fr + 1)) (z_dec hn3 hfl) (I_mk hI1 ⟨_, fr + 1, f', _, t8, rfl, by (first | lia | omega), by (first | lia | omega), by (first | lia | omega), hf4, H18, by exact e1, by exact e2, by exact e3, by exact e4, by rfl⟩)
    · repeat' walk1
      have hst : stpF m = fr - (ovL m).getD (fr - 1) 0 := by unfold stpF; rw [hfar]
      have hqf : qF m = fr / stpF m := by unfold qF; rw [hfar]
      have hst0 := stpF_pos hm0
      have hqp := qF_pos hm0
      have hox := hole (fr - 1)
      generalize hstg : stpF m = st at *
      generalize hqg : qF m = q at *
      refine r_itemI (j := 4) H17 (by rfl) (by (first | lia | omega)) (by (first | lia | omega)) (by rw [show (((fr : Nat) : Int) - 1).toNat = fr - 1 by (first | lia | omega)]; exact zs_get (k := fr - 1) (by (first | lia | omega))) ?_ (by with_unfolding_all rfl); intro t22
      have hst100 : st < 100 := by clear hqf hqp hqg hst hP hn hn3; (first | lia | omega)
      have hab : ((st : Nat) : Int).natAbs < 1073741824 := by rw [Int.natAbs_natCast]; exact Nat.lt_trans hst100 (by decide)
      have hp64 : ((st : Nat) : Int) < 2 ^ 64 := by clear hab hqf hqp hqg hst hP hn hn3 hst0; (first | lia | omega)
      have hm64 : -(2 : Int) ^ 64 < ((st : Nat) : Int) := by clear hab hqf hqp hqg hst hP hn hn3 hst0; (first | lia | omega)
      refine r_sub ?_; intro t23 tk23
      rw [show ((fr : Nat) : Int) - (((ovL m).getD (fr - 1) 0 : Nat) : Int) = ((st : Nat) : Int) by (first | lia | omega)]
      repeat' walk1
      rename_i h24 tk24 H24
      clear H17
      refine r_for (by intro _; rfl) ?_
      repeat' walk1
      rw [show ((fr : Nat) : Int).fdiv ((st : Nat) : Int) = ((q : Nat) : Int) by rw [Int.fdiv_eq_ediv_of_nonneg _ (by (first | lia | omega)), hqf]; simp]
      have hq100 : q ≤ m.length := Nat.le_trans (Nat.le_mul_of_pos_right q hst0.1) hqp.2
      refine r_range1 H24 ?_; intro r26 h26 tk26 H26
      refine r_itR (n := q) (N := [_, _, _, _, _]) H26 (small_one (by (first | lia | omega)) (by (first | lia | omega)) (by (first | lia | omega)) (by (first | lia | omega))) (by rw [rangeSize_one]; split <;> (first | lia | omega)) ?_; intro it27 h27 tk27 H27
      simp only [List.cons_append, List.nil_append] at H27
      obtain ⟨I2, hI2⟩ : ∃ I : Nat → Heap → Prop, I = (fun n h' => ∃ (lv : List (Str × Value)) (i : Nat) (as : List Addr) (tl tf ts : Tok), n = q - i ∧ i ≤ q ∧ as.length ≤ kk + i ∧
          Led (KK w) h h' [lexF w a ((m.drop (i * st) ++ (l.take kk ++ m.take (i * st))).map stS) [] T] [nsD L lv, cellD (L + 1) (some (.ref a.x)), rowsD pD as ((P ++ (List.range i).map fun i => (m.drop (i * st)).take st).map (List.map stS)), strsD D12 (m.map stS), intsD tD (zs (ovL m)), riD it27 (0 + (i : Int) * 1) ((q : Int) - (i : Int)) 1] ∧
          lv.lookup ("left" : Str) = some (.int ((m.length : Nat) : Int) tl) ∧ lv.lookup ("pieces" : Str) = some (.ref pD) ∧ lv.lookup ("far" : Str) = some (.int ((fr : Nat) : Int) tf) ∧ lv.lookup ("step" : Str) = some (.int ((st : Nat) : Int) ts)) := ⟨_, rfl⟩
      refine ⟨I2, q, _, _, rfl, I_mk hI2 ⟨_, 0, as, _, _, _, rfl, by (first | lia | omega), by (first | lia | omega), by simpa using H27, by exact e1, by exact e2, by exact e5, by rfl⟩, by intro _; rfl, ?_⟩
      clear H24 H26 H27 e1 e2 e3 e4 e5
      intro E4 n4 h28 tk28 hJ28
      refine ex6_8 (I_out hI2 hJ28) ?_
      intro lv4 i as4 tl tf4 ts hn4 hi has4 H28 e1 e2 e5 e6
      clear hJ28
      by_cases hiq : i < q
      · have hs1 : (i + 1) * st = i * st + st := Nat.succ_mul i st
        have hs2 : (i + 1) * st ≤ q * st := Nat.mul_le_mul_right st hiq
        refine r_nextR (j := 5) H28 (by rfl) (by (first | lia | omega)) ?_; intro t29 h29 tk29 H29
        simp only [List.set_cons_zero, List.set_cons_succ] at H29
        clear H28
        have hri := ringE m (l.take kk) (i * st) st (by (first | lia | omega))
        have hrl : (m.drop (i * st) ++ (l.take kk ++ m.take (i * st))).length = l.length := by
          simp only [List.length_append, List.length_drop, List.length_take]; exact z_ring hml hk (by (first | lia | omega))
        have hrt : (m.drop (i * st) ++ (l.take kk ++ m.take (i * st))).take st = (m.drop (i * st)).take st := List.take_append_of_le_length (by rw [List.length_drop]; (first | lia | omega))
        repeat' walk1
        rename Led _ _ _ _ _ => H30
        clear H29
        generalize hFF : (m.drop (i * st) ++ (l.take kk ++ m.take (i * st))) = F at *
        refine exec_LC (by rfl) (by rfl) (by rfl) ?_
        have H31 := H30.lexP0
        clear H30
        refine comp_map (β := Str) (K := KK w) (g := h) st SV (fun i => (F.map stS).getD i "") (fun i => [lexF w a ((F.map stS).drop i) (List.drop (i - (F.map stS).length) []) T]) [nsD L (("turn", .int (0 + (i : Int) * 1) t29) :: lv4), cellD (L + 1) (some (.ref a.x)), rowsD pD as4 ((P ++ (List.range i).map fun i => (m.drop (i * st)).take st).map (List.map stS)), strsD D12 (m.map stS), intsD tD (zs (ovL m)), riD it27 (0 + (i : Int) * 1 + 1) ((q : Int) - (i : Int) - 1) 1]
          (by (first | lia | omega)) (by intro _; rfl) (by rfl) (by rfl) (by rfl) (by rfl) (by rfl) ?_
        repeat' walk1
        refine r_range1 H31 ?_; intro r32 h32 tk32 H32
        refine r_itR (n := st) (N := [_, _, _, _, _, _]) H32 (small_one (by (first | lia | omega)) (by (first | lia | omega)) (by (first | lia | omega)) (by (first | lia | omega))) (by rw [rangeSize_one]; split <;> (first | lia | omega)) ?_; intro it33 h33 tk33 H33
        refine ⟨it33, _, _, _, h33, tk33, rfl, rfl, itr_range hA, H33, fun _ _ _ _ _ => trivial, ?_, ?_⟩
        · clear H31 H32 H33
          intro E5 C5 D5 i5 lv5 acc5 v h34 tk34 NN5 hNN5 hi5 _ _ _ H34
          try simp only [List.cons_append, List.nil_append] at H34
          repeat' walk1
          obtain ⟨rest34, L34⟩ := H34.lexP (j := 0) rfl
          refine r_lmethod (f := 49) H34.gd L34 (by rfl) (by rfl) (by intros; rfl) ?_
          refine callWith_K0 (K := KK w) H34.gd.frag (by rfl) ?_
          refine wpAny_call (gw_call (f := (F.map stS).getD i5 "") (H34.calleeO (j := 0) rfl) (by rw [List.map_nil, List.append_nil]; exact getD_some (by rw [List.length_map]; (first | lia | omega))) (by rw [deeper_depth']; (first | lia | omega)) (by rw [deeper_units']; (first | lia | omega)) hA hT (by rw [List.length_map]; (first | lia | omega)) ?_); intro h35 tk35 t35 H35
          have H36 := H34.backO (j := 0) rfl (by rfl) H35
          exact TP.mk hNN5 ⟨t35, rfl⟩ (H36)
        · clear H31 H32 H33
          intro C5 D5 lv5 acc5 h34 tk34 hp5 H34
          rw [range_take (by rw [List.length_map]; (first | lia | omega)), ← List.map_take, hrt] at hp5
          refine uend_sto (N := [_, _, _, _, _]) H34 (by rfl) (by rfl) (by rfl) ?_
          intro h35 tk35 H35
          simp only [List.cons_append, List.nil_append] at H35
          have H36 := H35.conv (j := 6) (d' := strsD D5 (((m.drop (i * st)).take st).map stS)) (by rfl) (by rfl) (fun p => ⟨_, p, hp5⟩)
          simp only [List.set_cons_zero, List.set_cons_succ, List.drop_nil] at H36
          rw [← List.map_drop] at H36
          rw [hrt] at hri
          have hSl : ((m.drop (i * st)).take st).length = st := by rw [List.length_take, List.length_drop]; (first | lia | omega)
          generalize hSg : (m.drop (i * st)).take st = S at *
          clear H34 H35 hp5
          generalize hGG : (F.drop st).map stS = G at *
          have hG : G.length + st = l.length := by rw [← hGG, List.length_map, List.length_drop]; (first | lia | omega)
          repeat' walk1
          refine r_for (by intro _; rfl) ?_
          repeat' walk1
          obtain ⟨v37, l37, p37⟩ := H36.strs (j := 6) (by rfl)
          have hv37 := p37.length
          rw [List.length_map] at hv37
          refine r_iterL H36 l37.isList ?_; intro it38 h38 tk38 H38
          simp only [List.cons_append, List.nil_append] at H38
          obtain ⟨I3, hI3⟩ : ∃ I : Nat → Heap → Prop, I = (fun n h' => ∃ (lv : List (Str × Value)) (z : Nat), n = st - z ∧ z ≤ st ∧ Led (KK w) h h' [lexF w a (G ++ (S.map stS).take z) [] T] [nsD L lv, cellD (L + 1) (some (.ref a.x)), rowsD pD as4 ((P ++ (List.range i).map fun i => (m.drop (i * st)).take st).map (List.map stS)), strsD D12 (m.map stS), intsD tD (zs (ovL m)), riD it27 (0 + (i : Int) * 1 + 1) ((q : Int) - (i : Int) - 1) 1, strsD D5 (S.map stS), liD it38 D5 z] ∧ lv.lookup ("left" : Str) = some (.int ((m.length : Nat) : Int) tl) ∧ lv.lookup ("pieces" : Str) = some (.ref pD) ∧ lv.lookup ("far" : Str) = some (.int ((fr : Nat) : Int) tf4) ∧ lv.lookup ("step" : Str) = some (.int ((st : Nat) : Int) ts) ∧ lv.lookup ("piece" : Str) = some (.ref D5)) := ⟨_, rfl⟩
          refine ⟨I3, st, _, _, rfl, I_mk hI3 ⟨_, 0, rfl, by (first | lia | omega), by rw [List.take_zero, List.append_nil]; exact H38, by exact e1, by exact e2, by exact e5, by exact e6, by rfl⟩, by intro _; rfl, ?_⟩
          clear H36 H38 l37 p37 e1 e2 e5 e6
          clear hv37 v37
          intro E6 n6 h39 tk39 hJ39
          refine ex2_8 (I_out hI3 hJ39) ?_
          intro lv6 z hn6 hz H39 e1 e2 e5 e6 e7
          clear hJ39
          obtain ⟨v40, l40, p40⟩ := H39.strs (j := 6) (by rfl)
          have hv40 := p40.length
          rw [List.length_map] at hv40
          by_cases hzl : z < st
          · obtain ⟨y, hy⟩ : ∃ y, (S.map stS)[z]? = some y := ⟨_, List.getElem?_eq_getElem (by rw [List.length_map]; (first | lia | omega))⟩
            obtain ⟨vv, hvv, tvv, rfl⟩ := Paired.get p40 hy
            refine r_nextL (j := 7) H39 (by rfl) l40.isList (by simpa using hvv) ?_; intro h41 tk41 H41
            simp only [List.set_cons_zero, List.set_cons_succ] at H41
            have hst' : (S.map stS).take (z + 1) = (S.map stS).take z ++ [y] := by rw [List.take_add_one, hy]; rfl
            clear H39
            repeat' walk1
            rename Led _ _ _ _ _ => H42
            obtain ⟨rest42, L42⟩ := H42.lexP (j := 0) rfl
            refine r_lmethod (f := 56) H42.gd L42 (by rfl) (by rfl) (by intros; rfl) ?_
            refine callWith_K (K := KK w) H42.gd.frag (by rfl) ?_
            walk1
            walk1
            walk1
            refine ⟨H42.gd.frag, ?_⟩
            refine wpAny_call (pw_call (H42.calleeO (j := 0) rfl) (by rw [deeper_depth']; (first | lia | omega)) (by rw [deeper_units']; (first | lia | omega)) (by rw [List.length_append, List.length_take]; (first | lia | omega)) ?_); intro h43 tk43 H43
            have H44 := H42.backO (j := 0) rfl (by rfl) H43
            simp only [List.set_cons_zero] at H44
            rw [List.append_assoc, ← hst'] at H44
            clear H41 H42 H43
            dsimp only
            repeat' walk1
            exact Nx.mk (m := st - (z + 1)) (z_dec hn6 hzl) (I_mk hI3 ⟨_, z + 1, rfl, by (first | lia | omega), H44, by exact e1, by exact e2, by exact e5, by exact e6, by exact e7⟩)
          · have hze : z = st := by (first | lia | omega)
            refine r_nextL_end (j := 7) H39 hA (by rfl) l40.isList (by simp; (first | lia | omega)) ?_; intro h41 tk41 H41
            simp only [List.eraseIdx_cons_succ, List.eraseIdx_cons_zero] at H41
            rw [List.take_of_length_le (by rw [List.length_map]; (first | lia | omega)), ← hGG, ← List.map_append, hri, ← hs1] at H41
            clear H39 l40 p40 hv40 v40
            repeat' walk1
            obtain ⟨lP, _⟩ : (rowsD pD as4 ((P ++ (List.range i).map fun i => (m.drop (i * st)).take st).map (List.map stS))).P h41 := H41.at (j := 2) (by rfl)
            refine r_lmeth lP PySem.F.slot_list_append PySem.F.type_list_append ?_
            refine r_callB (by rfl) ?_
            walk1
            refine r_appRows (B1 := [nsD L lv6, cellD (L + 1) (some (.ref a.x))]) (B2 := [strsD D12 (m.map stS), intsD tD (zs (ovL m)), riD it27 (0 + (i : Int) * 1 + 1) ((q : Int) - (i : Int) - 1) 1]) (by exact H41) (by (first | lia | omega)) ?_; intro h43 H43
            simp only [List.cons_append, List.nil_append] at H43
            clear H41 lP
            repeat' walk1
            have hPS : (P ++ (List.range i).map fun i => (m.drop (i * st)).take st).map (List.map stS) ++ [S.map stS] = (P ++ (List.range (i + 1)).map fun i => (m.drop (i * st)).take st).map (List.map stS) := by
              rw [List.range_succ]; simp [hSg]
            rw [hPS, show (0 : Int) + (i : Int) * 1 + 1 = 0 + ((i + 1 : Nat) : Int) * 1 by (first | lia | omega), show (q : Int) - (i : Int) - 1 = (q : Int) - ((i + 1 : Nat) : Int) by (first | lia | omega)] at H43
            exact Nx.mk (m := q - (i + 1)) (z_dec hn4 hiq) (I_mk hI2 ⟨_, i + 1, as4 ++ [D5], tl, tf4, ts, rfl, by (first | lia | omega), by rw [List.length_append, List.length_singleton]; (first | lia | omega), H43, by exact e1, by exact e2, by exact e5, by exact e6⟩)
      · have hie : i = q := by (first | lia | omega)
        refine r_nextR_end (j := 5) H28 hA (by rfl) (by (first | lia | omega)) ?_; intro h29 tk29 H29
        simp only [List.eraseIdx_cons_succ, List.eraseIdx_cons_zero] at H29
        rw [hie] at H29 has4
        clear H28
        repeat' walk1
        rename Led _ _ _ _ _ => H30
        clear H29
        have hfd : ((fr : Nat) : Int).fdiv ((st : Nat) : Int) = ((q : Nat) : Int) := by rw [Int.fdiv_eq_ediv_of_nonneg _ (by (first | lia | omega)), hqf]; simp
        have hlv : ((m.length : Nat) : Int) - ((st : Nat) : Int) * ((fr : Nat) : Int).fdiv ((st : Nat) : Int) = ((l.length - (kk + q * st) : Nat) : Int) := by
          have : ((st : Nat) : Int) * ((q : Nat) : Int) = ((q * st : Nat) : Int) := by rw [Nat.mul_comm]; simp
          rw [hfd, this]; exact z_left hml hk hqp.2
        rw [hlv] at H30
        have hrr : m.drop (q * st) ++ (l.take kk ++ m.take (q * st)) = l.drop (kk + q * st) ++ l.take (kk + q * st) := by
          rw [← hm, List.drop_drop, List.take_add]
        rw [hrr] at H30
        have hq0 : q ≤ q * st := Nat.le_mul_of_pos_right q hst0.1
        obtain ⟨f2, rfl⟩ : ∃ f2, f = f2 + 1 := ⟨f - 1, by (first | lia | omega)⟩
        have hmn : ¬ m = [] := by intro e; rw [e] at hm0; simp at hm0
        rw [pcsF, if_neg hmn, hstg, hqg, ← List.append_assoc] at hP
        refine Nx.mk (m := l.length - (kk + q * st)) (by (first | lia | omega)) (I_mk hI0 ?_)
        refine ⟨_, kk + q * st, f2, P ++ (List.range q).map (fun i => (m.drop (i * st)).take st), as4, _, rfl, by (first | lia | omega), by (first | lia | omega), ?_, by (first | lia | omega), H30.sub (.cons_cons _ (.cons_cons _ (.cons_cons _ (.cons _ (.cons _ .slnil))))), by rfl, by exact e2⟩
        rw [show l.drop (kk + q * st) = m.drop (q * st) by rw [← hm, List.drop_drop]]
        exact hP
  · rename ¬ _ => hlt
    have hke : kk = l.length := by (first | lia | omega)
    subst hke
    rw [List.drop_length] at hP H8
    have hPp : P = pcs l := by
      rw [← hP]
      cases f with
      | zero => simp [pcsF]
      | succ f => simp [pcsF]
    rw [List.take_length, List.nil_append, hPp] at H8
    exact k pD as _ _ (H8.sub (.cons _ (.cons _ (.cons_cons _ .slnil))))
end Mine
end

section
open PySem PySem.W PySem.Calls PyProof.Rows
namespace Mine



def groupD (t : Addr) (us : List Value) (ds : List HD) : HD where
  fp := t :: ds.flatMap HD.fp
  P h := h.PlainList t us.toArray ∧ ∀ d ∈ ds, d.P h
  st h h' e p := ⟨p.1.at (e t (.head _)), fun d hd => d.st h h' (fun a ha => e a (.tail _ (List.mem_flatMap.mpr ⟨d, hd, ha⟩))) (p.2 d hd)⟩
  al h p b hb := by
    rcases List.mem_cons.mp hb with rfl | hb
    · obtain ⟨n, ho⟩ := p.1; exact ⟨_, ho⟩
    · obtain ⟨d, hd, ha⟩ := List.mem_flatMap.mp hb
      exact d.al h (p.2 d hd) b ha
section
variable {prog : Program} {w : World} {A : Around} {E : Value → Shared → Prop} {K : Frag} {g h : Heap} {O N : List HD} {gs : Array GenState} {dr : Drawn} {tk : Nat} {os : OsState}
theorem r_appG {B1 B2 : List HD} {t : Addr} {us : List Value} {ds : List HD} {v : Value} {d : HD} {Q : Value → Shared → Prop} (H : Led K g h O (B1 ++ groupD t us ds :: (B2 ++ [d]))) (hsz : us.length < 5000)
    (q : ∀ h', Led K g h' O (B1 ++ groupD t (us ++ [v]) (ds ++ [d]) :: B2) → Q .none ⟨h', gs, dr, tk, os⟩) : wpAny (model prog w) A (call (.builtin "list.append") [.ref t, v]) Q E ⟨h, gs, dr, tk, os⟩ := by
  have hj : (B1 ++ groupD t us ds :: (B2 ++ [d]))[B1.length]? = some (groupD t us ds) := by
    rw [List.getElem?_append_right (Nat.le_refl _), Nat.sub_self]; rfl
  obtain ⟨q1, q2⟩ : (groupD t us ds).P h := H.at hj
  have nd := H.nd
  have hfp : (B1 ++ groupD t us ds :: (B2 ++ [d])).flatMap HD.fp = B1.flatMap HD.fp ++ (t :: ds.flatMap HD.fp ++ (B2.flatMap HD.fp ++ d.fp)) := by
    simp [groupD]
  have nra : t ∉ ds.flatMap HD.fp := by
    rw [List.flatMap_append, hfp] at nd
    have h1 := (List.nodup_append.mp (List.nodup_append.mp nd).2.1).2.1
    exact (List.nodup_cons.mp (List.nodup_append.mp h1).1).1
  refine w_app q1 (by (first | lia | omega)) fun h' hl' hs' => q h' ?_
  have H1 := H.mod (d' := groupD t (us ++ [v]) ds) hj rfl (fun b o hb e => hs'.extBut b o (fun q => hb (by rw [q]; simp [groupD])) e)
    ⟨hl', fun x hx => x.st h h' (fun a ha o e => hs'.extBut a o (fun q => nra (q ▸ List.mem_flatMap.mpr ⟨x, hx, ha⟩)) e) (q2 x hx)⟩
  have hset : (B1 ++ groupD t us ds :: (B2 ++ [d])).set B1.length (groupD t (us ++ [v]) ds) = B1 ++ groupD t (us ++ [v]) ds :: (B2 ++ [d]) := by
    rw [List.set_append_right _ _ (Nat.le_refl _), Nat.sub_self]; rfl
  rw [hset] at H1
  obtain ⟨z1, z2⟩ : (groupD t (us ++ [v]) ds).P h' := H1.has (by simp)
  have z3 : d.P h' := H1.has (by simp)
  have hfp2 : (B1 ++ groupD t (us ++ [v]) (ds ++ [d]) :: B2).flatMap HD.fp = B1.flatMap HD.fp ++ (t :: (ds.flatMap HD.fp ++ d.fp) ++ B2.flatMap HD.fp) := by
    simp [groupD]
  have hfp3 : (B1 ++ groupD t (us ++ [v]) ds :: (B2 ++ [d])).flatMap HD.fp = B1.flatMap HD.fp ++ (t :: ds.flatMap HD.fp ++ (B2.flatMap HD.fp ++ d.fp)) := by
    simp [groupD]
  have hperm : (B1.flatMap HD.fp ++ (t :: ds.flatMap HD.fp ++ (B2.flatMap HD.fp ++ d.fp))).Perm (B1.flatMap HD.fp ++ (t :: (ds.flatMap HD.fp ++ d.fp) ++ B2.flatMap HD.fp)) := by
    refine List.Perm.append_left _ ?_
    rw [List.cons_append, List.cons_append, List.append_assoc]
    refine List.Perm.cons _ (List.Perm.append_left _ ?_)
    exact List.perm_append_comm
  refine H1.regroup (fun x hd => ?_) (fun b hb => ?_) ?_
  · rcases List.mem_append.mp hd with hd | hd
    · exact H1.has (List.mem_append_left _ hd)
    · rcases List.mem_cons.mp hd with rfl | hd
      · exact ⟨z1, fun y hy => (List.mem_append.mp hy).elim (z2 y) (fun hy => by cases List.mem_singleton.mp hy; exact z3)⟩
      · exact H1.has (by simp [hd])
  · rw [hfp2] at hb
    rw [hfp3]
    exact hperm.symm.subset hb
  · rw [hfp2]
    have nd1 := H1.nd
    rw [List.flatMap_append, hfp3] at nd1
    exact hperm.nodup_iff.mp (List.nodup_append.mp nd1).2.1
end
abbrev TE := Addr × List Addr × List (List Str)
def turnsD (t : Addr) (es : List TE) : HD := groupD t (es.map fun e => .ref e.1) (es.map fun e => rowsD e.1 e.2.1 e.2.2)
def rotL (i : Nat) (l : LL) : LL := l.drop i ++ l.take i
theorem rotL_next {i : Nat} {l : LL} (h : i < l.length) : ((rotL i l).map stS).drop (0 + 1) ++ [((rotL i l).map stS).getD 0 ""] = (rotL (i + 1) l).map stS := by
  have h1 : l.drop i = l[i] :: l.drop (i + 1) := List.drop_eq_getElem_cons h
  have h2 : l.take (i + 1) = l.take i ++ [l[i]] := by rw [List.take_add_one, List.getElem?_eq_getElem h]; rfl
  unfold rotL
  rw [h1, h2, List.cons_append, List.map_cons, Nat.zero_add, List.drop_succ_cons, List.drop_zero, List.getD_cons_zero, ← List.append_assoc]
  generalize l.drop (i + 1) ++ l.take i = z
  rw [List.map_append]; rfl
def trn (l : LL) (n : Nat) : List (List (List Str)) := (List.range n).map fun i => (pcs (rotL i l)).map (List.map stS)
set_option maxRecDepth 100000 in
set_option maxHeartbeats 8000000 in
theorem tn_call {w : World} {A : Around} {h : Heap} {gs : Array GenState} {dr : Drawn} {tk : Nat} {os : OsState} {R : Result → Shared → Prop} {a : LA} {l : LL} {T : Int} {tz : Tok}
    (H : Led (KK w) h h [lexF w a (l.map stS) [] T] []) (hd : A.depth < 500) (hu : A.units < 500) (hA : A.handled = none) (hT : 0 ≤ T ∧ T < 100000) (hl : l.length < 100)
    (k : ∀ D es h' tk', es.map (fun e : TE => e.2.2) = trn l l.length → Led (KK w) h h' [lexF w a (l.map stS) [] T] [turnsD D es] → R (.ok (.ret (.ref D))) ⟨h', gs, dr, tk', os⟩) :
    codeAny (model PG w) A (.call (.ref 92) ⟨[.ref a.x, .int (l.length : Nat) tz], []⟩) R ⟨h, gs, dr, tk, os⟩ := by
  refine r_enterN (binds := [("lexer", .ref a.x), ("size", .int (l.length : Nat) tz)]) (lv := [(("size" : Str), .int (l.length : Nat) tz), (("lexer" : Str), .ref a.x)]) (D := fun _ => []) (ns := []) H (Nat.lt_of_lt_of_le hd (by decide)) rfl rfl rfl rfl rfl (by intro _; rfl) (by decide) (by intro _; rfl) (all_mix (by intro _; rfl)) (by intro _; exact bindL_mix (by rfl)) rfl rfl rfl ?_
  intro E' L h₁ tk₁ H1
  repeat' walk1
  rename_i tD h2 tk2 H2 h3 tk3 H3
  clear H1 H2
  have H4 := H3.conv (j := 1) (d' := turnsD tD []) (by rfl) (by rfl) (fun p => ⟨p, fun d hd => nomatch hd⟩)
  simp only [List.set_cons_zero, List.set_cons_succ] at H4
  clear H3
  refine r_for (by intro _; rfl) ?_
  repeat' walk1
  refine r_range1 H4 ?_; intro r5 h5 tk5 H5
  refine r_itR (n := l.length) (N := [_, _]) H5 (small_one (by (first | lia | omega)) (by (first | lia | omega)) (by (first | lia | omega)) (by (first | lia | omega))) (by rw [rangeSize_one]; split <;> (first | lia | omega)) ?_; intro it6 h6 tk6 H6
  simp only [List.cons_append, List.nil_append] at H6
  obtain ⟨I1, hI1⟩ : ∃ I : Nat → Heap → Prop, I = (fun n h' => ∃ (lv : List (Str × Value)) (i : Nat) (es : List TE), n = l.length - i ∧ i ≤ l.length ∧ es.map (fun e : TE => e.2.2) = trn l i ∧
      Led (KK w) h h' [lexF w a ((rotL i l).map stS) [] T] [nsD L lv, turnsD tD es, riD it6 (0 + (i : Int) * 1) ((l.length : Int) - (i : Int)) 1] ∧
      lv.lookup ("lexer" : Str) = some (.ref a.x) ∧ lv.lookup ("turns" : Str) = some (.ref tD)) := ⟨_, rfl⟩
  refine ⟨I1,
    l.length, _, _, rfl, I_mk hI1 ⟨_, 0, [], rfl, by (first | lia | omega), rfl, by simpa [rotL] using H6, by rfl, by rfl⟩, by intro _; rfl, ?_⟩
  clear H4 H5 H6
  intro E2 n7 h7 tk7 hJ1
  refine ex3_6 (I_out hI1 hJ1) ?_
  intro lv i es hn hi hes H7 e1 e2
  clear hJ1
  have hesl : es.length = i := by have := congrArg List.length hes; simpa [trn] using this
  by_cases hil : i < l.length
  · refine r_nextR (j := 2) H7 (by rfl) (by (first | lia | omega)) ?_; intro t8 h8 tk8 H8
    simp only [List.set_cons_zero, List.set_cons_succ] at H8
    clear H7
    have hrl : (rotL i l).length = l.length := by unfold rotL; rw [List.length_append, List.length_drop, List.length_take]; (first | lia | omega)
    repeat' walk1
    rename Led _ _ _ _ _ => H9
    clear H8
    obtain ⟨lP9, _⟩ : (turnsD tD es).P _ := H9.at (j := 1) (by rfl)
    refine r_lmeth lP9 PySem.F.slot_list_append PySem.F.type_list_append ?_
    refine r_callB (by rfl) ?_
    walk1
    walk1
    refine callWith_K (K := KK w) H9.gd.frag (by rfl) ?_
    walk1
    walk1
    walk1
    refine ⟨H9.gd.frag, ?_⟩
    refine wpAny_call (pc_call (H9.calleeO (j := 0) rfl) (by rw [deeper_depth']; (first | lia | omega)) (by rw [deeper_units']; (first | lia | omega)) hA hT (by (first | lia | omega)) ?_); intro D10 as10 h10 tk10 H10
    have H11 := H9.backOO (j := 0) rfl (by rfl) H10
    simp only [List.set_cons_zero, List.cons_append, List.nil_append] at H11
    clear H9 H10 lP9
    dsimp only
    repeat' walk1
    refine r_appG (B1 := [nsD L (("turn", .int (0 + (i : Int) * 1) t8) :: lv)]) (B2 := [riD it6 (0 + (i : Int) * 1 + 1) ((l.length : Int) - (i : Int) - 1) 1]) (d := rowsD D10 as10 ((pcs (rotL i l)).map (List.map stS))) (by exact H11) (by rw [List.length_map]; (first | lia | omega)) ?_; intro h12 H12
    have H13 : Led (KK w) h h12 [lexF w a ((rotL i l).map stS) [] T] [nsD L (("turn", .int (0 + (i : Int) * 1) t8) :: lv), turnsD tD (es ++ [(D10, as10, (pcs (rotL i l)).map (List.map stS))]), riD it6 (0 + (i : Int) * 1 + 1) ((l.length : Int) - (i : Int) - 1) 1] := by
      unfold turnsD; rw [List.map_append, List.map_append]; exact H12
    clear H11 H12
    repeat' walk1
    obtain ⟨rest13, L13⟩ := H13.lexP (j := 0) rfl
    refine r_lmethod (f := 56) H13.gd L13 (by rfl) (by rfl) (by intros; rfl) ?_
    refine callWith_K (K := KK w) H13.gd.frag (by rfl) ?_
    walk1
    walk1
    walk1
    have hX0 : 0 < ((rotL i l).map stS).length := by rw [List.length_map]; (first | lia | omega)
    have H14 : Led (KK w) h _ [lexF w a (((rotL i l).map stS).drop 0) (List.drop (0 - ((rotL i l).map stS).length) []) T] _ := H13.lexP0
    refine r_lmethod (f := 49) H13.gd L13 (by rfl) (by rfl) (by intros; rfl) ?_
    refine callWith_K0 (K := KK w) H13.gd.frag (by rfl) ?_
    refine wpAny_call (gw_call (f := ((rotL i l).map stS).getD 0 "") (H14.calleeO (j := 0) rfl) (by rw [List.map_nil, List.append_nil]; exact getD_some (by (first | lia | omega))) (by rw [deeper_depth']; (first | lia | omega)) (by rw [deeper_units']; (first | lia | omega)) hA hT (by rw [List.length_map]; (first | lia | omega)) ?_); intro h15 tk15 t15 H15
    have H16 := H14.backO (j := 0) rfl (by rfl) H15
    simp only [List.set_cons_zero, List.drop_nil] at H16
    clear H13 H14 H15
    dsimp only
    walk1
    refine ⟨H16.gd.frag, ?_⟩
    refine wpAny_call (pw_call (H16.calleeO (j := 0) rfl) (by rw [deeper_depth']; (first | lia | omega)) (by rw [deeper_units']; (first | lia | omega)) (by rw [List.length_drop, List.length_map]; (first | lia | omega)) ?_); intro h17 tk17 H17
    have H18 := H16.backO (j := 0) rfl (by rfl) H17
    simp only [List.set_cons_zero] at H18
    clear H16 H17
    dsimp only
    repeat' walk1
    have hnx : ((rotL i l).map stS).drop (0 + 1) ++ [((rotL i l).map stS).getD 0 ""] = (rotL (i + 1) l).map stS := by
      rw [← rotL_next hil]
    rw [hnx, show (0 : Int) + (i : Int) * 1 + 1 = 0 + ((i + 1 : Nat) : Int) * 1 by (first | lia | omega), show (l.length : Int) - (i : Int) - 1 = (l.length : Int) - ((i + 1 : Nat) : Int) by (first | lia | omega)] at H18
    exact Nx.mk (m := l.length - (i + 1)) (by (first | lia | omega)) (I_mk hI1 ⟨_, i + 1, _, rfl, by (first | lia | omega), by rw [List.map_append, hes]; simp [trn, List.range_succ], H18, by exact e1, by exact e2⟩)
  · have hie : i = l.length := by (first | lia | omega)
    refine r_nextR_end (j := 2) H7 hA (by rfl) (by (first | lia | omega)) ?_; intro h8 tk8 H8
    simp only [List.eraseIdx_cons_succ, List.eraseIdx_cons_zero] at H8
    subst hie
    have hr : rotL l.length l = l := by simp [rotL]
    rw [hr] at H8
    clear H7
    repeat' walk1
    exact k tD es _ _ hes (H8.sub (.cons _ (.cons_cons _ .slnil)))
end Mine
end

section
open PySem PySem.W PySem.Calls PyProof.Rows
namespace Mine


theorem itr_listN {prog : Program} {w : World} {A : Around} {K : Frag} {g : Heap} {gs : Array GenState} {dr : Drawn} {os : OsState} {it l : Addr} {items : List Value} {n : Nat} (hn : items.length = n) (hh : A.handled = none) : Itr prog w A K g gs dr os it (fun i => liD it l i) n (fun i v => items[i]? = some v) (fun h => h.IsList l items.toArray) := by
  subst hn; exact itr_list hh

theorem getD_rangeG {α : Type} (l : List α) (d : α) : (List.range l.length).map (fun i => l.getD i d) = l := by
  apply List.ext_getElem
  · simp
  · intro i h1 h2
    simp at h1 h2 ⊢
    rw [List.getElem?_eq_getElem h2]; rfl
theorem paired_stS : ∀ {acc : List Value} {xs : LL}, Paired (fun v z => SV v (stS z)) acc xs → Paired SV acc (xs.map stS)
  | _, _, .nil => .nil
  | _, _, .cons q t => .cons q (paired_stS t)
theorem slice_stS {t : List Nat} {c : Nat} (h : c ≤ t.length) : Txt.slice (stS t) (some (c : Int)) none = stS (t.drop c) := by
  have e : ∀ u : List Nat, (stS u).cps.toList = u := fun u => by simp [stS]
  rw [slice_from_eq (b := t.length) (by (first | lia | omega)) (by rw [stS_len]; (first | lia | omega)) (by rw [stS_len]), e]
  rw [Int.toNat_natCast, List.take_of_length_le (by rw [List.length_drop]; (first | lia | omega))]
  rfl
structure FalP (ts : LL) : Prop where
  lyn : ∀ i, i < ts.length → ∀ c, 0 < c → c < (ts.getD i []).length → ts.getD i [] < (ts.getD i []).drop c
  fal : ∀ i, 0 < i → i < ts.length → ¬ ts.getD (i - 1) [] < ts.getD i []
  few : ts.length < 100
  len : ∀ t ∈ ts, t.length < 100
set_option maxRecDepth 100000 in
set_option maxHeartbeats 8000000 in
theorem fa_call {w : World} {A : Around} {h : Heap} {gs : Array GenState} {dr : Drawn} {tk : Nat} {os : OsState} {R : Result → Shared → Prop} {l : Addr} {as : List Addr} {ps : List LL}
    (G : Gd (KK w) h) (hl : (rowsD l as (ps.map (List.map stS))).P h) (hne : ∀ p ∈ ps, ∀ wd ∈ p, wd ≠ []) (hF : FalP (ps.map wrt)) (hd : A.depth < 500) (hu : A.units < 500) (hA : A.handled = none)
    (k : ∀ h' tk', Led (KK w) h h' [] [] → R (.ok (.ret (.bool true))) ⟨h', gs, dr, tk', os⟩) :
    codeAny (model PG w) A (.call (.ref 109) ⟨[.ref l], []⟩) R ⟨h, gs, dr, tk, os⟩ := by
  have hps : ps.length < 100 := by have := hF.few; simpa using this
  obtain ⟨q1, q2⟩ := hl
  have ps_len : ∀ p ∈ ps, p.length < 100 := fun p hp => by
    have := hF.len (wrt p) (List.mem_map.mpr ⟨p, hp, rfl⟩)
    simpa [wrt] using this
  have has : as.length = ps.length := by have := q2.length; simpa using this
  refine r_enterN (binds := [("pieces", .ref l)]) (lv := [(("pieces" : Str), .ref l)]) (D := fun L => [cellD (L + 1) none]) (ns := ["texts"]) (Led.start G) (Nat.lt_of_lt_of_le hd (by decide)) rfl rfl rfl rfl rfl (by intro _; rfl) (by decide) (by intro _; rfl) (all_loc (by rfl)) (by intro _; exact bindL_loc (by rfl) (by rfl)) rfl rfl rfl ?_
  intro E' L h₁ tk₁ H1
  repeat' walk1
  refine comp_map (β := List Nat) (K := KK w) (g := h) as.length (fun v z => SV v (stS z)) (fun i => wrt (ps.getD i [])) (fun _ => []) [nsD L [(("pieces" : Str), .ref l)], cellD (L + 1) none]
    (by (first | lia | omega)) (by intro _; rfl) (by rfl) (by rfl) (by rfl) (by rfl) (by rfl) ?_
  repeat' walk1
  refine r_iterL H1 (H1.blist q1.isList) ?_; intro it2 h2 tk2 H2
  refine ⟨it2, _, _, _, h2, tk2, rfl, rfl, itr_listN (items := as.map Value.ref) (by simp) hA, H2, fun _ _ _ _ H' => H'.blist q1.isList, ?_, ?_⟩
  · clear H1 H2
    intro E2 C D i lv acc v h3 tk3 NN2 hNN2 hi hv e1 hacc H3
    have hget : ∀ {α : Type} (l : List α) (d : α), i < l.length → l[i]? = some (l.getD i d) := fun l d hx => by rw [List.getD_eq_getElem?_getD, List.getElem?_eq_getElem hx]; rfl
    have hv2 : v = .ref (as.getD i 0) := by
      rw [List.getElem?_map, hget as 0 hi] at hv; cases hv; rfl
    subst hv2
    obtain ⟨b, hb, vs, lb, pb⟩ := Paired.get q2 (i := i) (y := (ps.getD i []).map stS) (by rw [List.getElem?_map, hget ps [] (by (first | lia | omega))]; rfl)
    rw [hget as 0 hi] at hb
    cases hb
    have hp : ps.getD i [] ∈ ps := List.mem_of_getElem? (hget ps [] (by (first | lia | omega)))
    have hpl := ps_len _ hp
    repeat' walk1
    refine callWith_K (K := KK w) H3.gd.frag (by rfl) ?_
    walk1
    walk1
    walk1
    refine ⟨H3.gd.frag, ?_⟩
    refine wpAny_call (wr_call H3.gd (H3.blist lb.isList) pb (hne _ hp) (by rw [deeper_depth']; (first | lia | omega)) (by rw [deeper_units']; (first | lia | omega)) hA (by (first | lia | omega)) ?_); intro t4 h4 tk4 H4
    exact TP.mk hNN2 ⟨_, rfl⟩ (H3.back0 H4)
  · clear H1 H2
    intro C D lv acc h3 tk3 hp3 H3
    refine uend_none (N := [_, _]) H3 fun h4 H4 => ?_
    simp only [List.cons_append, List.nil_append] at H4
    clear H3
    have e : ((List.range as.length).map fun i => wrt (ps.getD i [])) = ps.map wrt := by
      rw [has]
      have := congrArg (List.map wrt) (getD_rangeG ps [])
      rw [List.map_map] at this
      exact this
    rw [e] at hp3
    generalize ps.map wrt = ts at hF hp3
    have H5 := H4.conv (j := 2) (d' := strsD D (ts.map stS)) (by rfl) (by rfl) (fun p => ⟨_, p, paired_stS hp3⟩)
    simp only [List.set_cons_zero, List.set_cons_succ] at H5
    clear H4 e
    repeat' walk1
    rename Led _ _ _ _ _ => H6
    clear H5
    refine comp_core2 (K := KK w) (by intro _; rfl) (by intro _ _; rfl) (by rfl) (by rfl) (by rfl) (by rfl) ?_
    walk1
    obtain ⟨v7, l7, p7⟩ := H6.strs (j := 2) (by rfl)
    refine r_iterL H6 l7.isList ?_; intro it8 h8 tk8 H8
    simp only [List.cons_append, List.nil_append] at H8
    clear l7 p7 v7
    refine ⟨h, h8, tk8, [], [nsD L [(("pieces" : Str), .ref l)], cellD (L + 1) (some (.ref D)), strsD D (ts.map stS), liD it8 D 0], rfl, H8, by intro _; rfl, ?_⟩
    intro C2 D2 h9 tk9 H9
    simp only [List.cons_append, List.nil_append] at H9
    clear H6 H8
    have hts := hF.few
    obtain ⟨I1, hI1⟩ : ∃ I : Nat → Heap → Prop, I = (fun m h' => ∃ (i : Nat) (lv : List (Str × Value)), m = ts.length - i ∧ i ≤ ts.length ∧ Led (KK w) h h' [] [nsD C2 lv, nsD L [(("pieces" : Str), .ref l)], cellD (L + 1) (some (.ref D)), strsD D (ts.map stS), liD it8 D i, plainD D2 []]) := ⟨_, rfl⟩
    refine ⟨fun Q E' q => wpAny_pyIter_listiter (s := ⟨h9, _, _, _, _⟩) (H9.at (j := 4) (d := liD it8 D 0) rfl) q, I1,
      ts.length, I_mk hI1 ⟨0, [], rfl, by (first | lia | omega), H9⟩, ?_⟩
    clear H9
    intro E3 m h10 tk10 hJ1
    refine ex2_3 (I_out hI1 hJ1) ?_
    intro i lv2 hrfl1 hi H10
    clear hJ1
    subst hrfl1
    obtain ⟨v11, l11, p11⟩ := H10.strs (j := 3) (by rfl)
    have hv11 := p11.length
    rw [List.length_map] at hv11
    by_cases hlt : i < ts.length
    · have hgi : ts[i]? = some (ts.getD i []) := by rw [List.getD_eq_getElem?_getD, List.getElem?_eq_getElem hlt]; rfl
      obtain ⟨vv, hvv, tvv, rfl⟩ := Paired.get p11 (i := i) (y := stS (ts.getD i [])) (by rw [List.getElem?_map, hgi]; rfl)
      have hly := hF.lyn i hlt
      have htl := hF.len _ (List.mem_of_getElem? hgi)
      generalize ts.getD i [] = t at *
      refine r_nextL (j := 4) H10 (by rfl) l11.isList (by simpa using hvv) ?_; intro h12 tk12 H12
      simp only [List.set_cons_zero, List.set_cons_succ] at H12
      clear H10 l11 p11 hvv
      repeat' walk1
      rename Led _ _ _ _ _ => H12x
      clear H12
      refine PyProof.Rows.len_str (s := ⟨_, gs, dr, _, os⟩) (by rw [stS_len]; (first | lia | omega)) ?_
      rw [stS_len]
      repeat' walk1
      refine r_range2 H12x ?_; intro r13 h13 tk13 H13
      refine r_itR (n := t.length - 1) (N := [_, _, _, _, _, _]) H13 (small_one (by (first | lia | omega)) (by (first | lia | omega)) (by (first | lia | omega)) (by (first | lia | omega))) (by rw [rangeSize_one]; split <;> (first | lia | omega)) ?_; intro it14 h14 tk14 H14
      simp only [List.cons_append, List.nil_append] at H14
      obtain ⟨I2, hI2⟩ : ∃ I : Nat → Heap → Prop, I = (fun m h' => ∃ (q : Nat) (lv : List (Str × Value)), m = t.length - 1 - q ∧ q ≤ t.length - 1 ∧ lv.lookup ("text" : Str) = some (.str (stS t) tvv) ∧ Led (KK w) h h' [] [nsD C2 lv, nsD L [(("pieces" : Str), .ref l)], cellD (L + 1) (some (.ref D)), strsD D (ts.map stS), liD it8 D (i + 1), plainD D2 [], riD it14 (1 + (q : Int) * 1) (((t.length - 1 : Nat) : Int) - (q : Int)) 1]) := ⟨_, rfl⟩
      refine ⟨I2,
        t.length - 1, h14, _, rfl, I_mk hI2 ⟨0, _, rfl, by (first | lia | omega), by rfl, H14⟩, by intro _; rfl, fun Q E' q => wpAny_pyIter_rangeiter (s := ⟨h14, _, _, _, _⟩) (H14.at (j := 6) (d := riD it14 (1 + ((0 : Nat) : Int) * 1) (((t.length - 1 : Nat) : Int) - ((0 : Nat) : Int)) 1) rfl) q, ?_⟩
      clear H12x H13 H14
      intro E4 m h15 tk15 hJ2
      refine ex2_4 (I_out hI2 hJ2) ?_
      intro q lv3 hrfl2 hq e1 H15
      clear hJ2
      subst hrfl2
      by_cases hql : q < t.length - 1
      · refine r_nextR (j := 6) H15 (by rfl) (by (first | lia | omega)) ?_; intro t16 h16 tk16 H16
        simp only [List.set_cons_zero, List.set_cons_succ] at H16
        clear H15
        repeat' walk1
        rename Led _ _ _ _ _ => H17
        clear H16
        have hlt2 := hly (1 + q) (by (first | lia | omega)) (by (first | lia | omega))
        refine r_strFrom (i := 1 + (q : Int) * 1) H17 (by rw [stS_len]; (first | lia | omega)) (by with_unfolding_all rfl) (by intro _; with_unfolding_all rfl) ?_
        intro t18 h18 tk18 H18
        rw [show (1 : Int) + (q : Int) * 1 = ((1 + q : Nat) : Int) by (first | lia | omega), slice_stS (by (first | lia | omega))]
        clear H17
        repeat' walk1
        · rw [show (1 : Int) + (q : Int) * 1 + 1 = 1 + ((q + 1 : Nat) : Int) * 1 by (first | lia | omega), show ((t.length - 1 : Nat) : Int) - (q : Int) - 1 = ((t.length - 1 : Nat) : Int) - ((q + 1 : Nat) : Int) by (first | lia | omega)] at H18
          exact Nx.mk (m := t.length - 1 - (q + 1)) (by (first | lia | omega)) (I_mk hI2 ⟨q + 1, _, rfl, by (first | lia | omega), by exact e1, H18⟩)
        · rename ¬ _ => hnn
          exact absurd hlt2 hnn
      · refine r_nextR_end (j := 6) H15 hA (by rfl) (by (first | lia | omega)) ?_; intro h16 tk16 H16
        simp only [List.eraseIdx_cons_succ, List.eraseIdx_cons_zero] at H16
        exact Nx.mk (m := ts.length - (i + 1)) (by (first | lia | omega)) (I_mk hI1 ⟨i + 1, _, rfl, by (first | lia | omega), H16⟩)
    · have hie : i = ts.length := by (first | lia | omega)
      refine r_nextL_end (j := 4) H10 hA (by rfl) l11.isList (by simp; (first | lia | omega)) ?_; intro h12 tk12 H12
      simp only [List.eraseIdx_cons_succ, List.eraseIdx_cons_zero] at H12
      clear H10 l11 p11
      refine uend_none (N := [_, _, _]) H12 fun h13 H13 => ?_
      simp only [List.cons_append, List.nil_append] at H13
      clear H12
      repeat' walk1
      rename_i e14 h14 tk14 H14
      clear H13
      have l14 := H14.at (j := 3) (d := plainD D2 []) rfl
      have l15 := H14.at (j := 4) (d := plainD e14 []) rfl
      refine r_neSS l14.isList .nil l15.isList .nil (by rw [deeper_units']; show _ < 9900; (first | lia | omega)) ?_
      rw [decide_eq_true rfl]
      walk1
      rw [if_neg (by decide)]
      have H16 := H14.sub (N' := [nsD L [(("pieces" : Str), .ref l)], cellD (L + 1) (some (.ref D)), strsD D (ts.map stS)]) (.cons_cons _ (.cons_cons _ (.cons_cons _ (.cons _ (.cons _ .slnil)))))
      clear H14 l14 l15
      repeat' walk1
      refine comp_filter (β := Unit) (K := KK w) (g := h) (ts.length - 1) (fun _ _ => True) (fun _ => none) (fun _ => []) [nsD L [(("pieces" : Str), .ref l)], cellD (L + 1) (some (.ref D)), strsD D (ts.map stS)]
        (by (first | lia | omega)) (by intro _; rfl) (by rfl) (by rfl) (by rfl) (by rfl) (by rfl) ?_
      repeat' walk1
      rename Led _ _ _ _ _ => H20
      obtain ⟨v20, l20, p20⟩ := H20.strs (j := 2) (by rfl)
      have hv20 := p20.length
      rw [List.length_map] at hv20
      refine r_len l20.isList (by (first | lia | omega)) ?_; intro t20 tk20
      rw [hv20]
      repeat' walk1
      refine r_range2 H20 ?_; intro r21 h21 tk21 H21
      refine r_itR (n := ts.length - 1) (N := [_, _, _]) H21 (small_one (by (first | lia | omega)) (by (first | lia | omega)) (by (first | lia | omega)) (by (first | lia | omega))) (by rw [rangeSize_one]; split <;> (first | lia | omega)) ?_; intro it22 h22 tk22 H22
      refine ⟨it22, _, _, _, h22, tk22, rfl, rfl, itr_range hA, H22, fun _ _ _ _ _ => trivial, ?_, ?_, ?_⟩
      · clear H20 H21 H22 l20 p20
        intro E2 C D3 i lv acc v h23 tk23 NN2 hNN2 hi hv e1 hacc H23
        obtain ⟨t23, rfl⟩ := hv
        try simp only [List.cons_append, List.nil_append] at H23
        repeat' walk1
        obtain ⟨v24, l24, p24⟩ := H23.strs (j := 3) (by rfl)
        refine r_itemS l24.isList p24 (by (first | lia | omega)) (by (first | lia | omega)) (x := stS (ts.getD i [])) (by rw [show (1 + (i : Int) * 1 - 1).toNat = i by (first | lia | omega), List.getElem?_map, List.getD_eq_getElem?_getD, List.getElem?_eq_getElem (by (first | lia | omega))]; rfl) ?_ (by with_unfolding_all rfl); intro t25
        repeat' walk1
        refine r_itemS l24.isList p24 (by (first | lia | omega)) (by (first | lia | omega)) (x := stS (ts.getD (i + 1) [])) (by rw [show (1 + (i : Int) * 1).toNat = i + 1 by (first | lia | omega), List.getElem?_map, List.getD_eq_getElem?_getD, List.getElem?_eq_getElem (by (first | lia | omega))]; rfl) ?_ (by with_unfolding_all rfl); intro t26
        repeat' walk1
        refine TQ.mk hNN2 ?_ ?_
        · have hf := hF.fal (i + 1) (by (first | lia | omega)) (by (first | lia | omega))
          rw [show i + 1 - 1 = i by (first | lia | omega)] at hf
          exact decide_eq_false hf
        · exact H23
      · clear H20 H21 H22 l20 p20
        intro E2 C D3 i lv acc v h23 tk23 z NN2 hNN2 hi hv hz
        cases hz
      · clear H20 H21 H22 l20 p20
        intro C23 D23 lv23 acc23 h23 tk23 hp23 H23
        refine uend_none (N := [_, _, _]) H23 fun h24 H24 => ?_
        try simp only [List.cons_append, List.nil_append] at H24
        clear H23
        repeat' walk1
        rename_i e25 h25 tk25 H25
        clear H24
        have ea : acc23 = [] := by
          rw [List.filterMap_eq_nil_iff.mpr (fun _ _ => rfl)] at hp23
          cases hp23; rfl
        subst ea
        have l25 := H25.at (j := 3) (d := plainD D23 []) rfl
        have l26 := H25.at (j := 4) (d := plainD e25 []) rfl
        refine r_eqSS l25.isList .nil l26.isList .nil (by rw [deeper_units']; show _ < 9900; (first | lia | omega)) ?_
        rw [decide_eq_true rfl]
        exact k _ _ (H25.sub (List.nil_sublist _))
end Mine
end

section
open PySem PySem.W PySem.Calls PyProof.Rows
namespace Mine
def drw (hs : List Nat) (i : Nat) : List Nat := W4.getD ((hs.getD i 0 % 4 + 2) % 4) []
def szC (hs : List Nat) : Nat := 5 + hs.getD 9 0 % 4
def drC (hs : List Nat) : LL := (List.range (szC hs)).map (drw hs)
def txt3 (hs : List Nat) : List Nat := ((List.range (szC hs)).map fun p => spell (drw hs p) (hs.getD (p + 2) 0 + p)).flatten
theorem szC_le (hs : List Nat) : 5 ≤ szC hs ∧ szC hs ≤ 8 := by unfold szC; (first | lia | omega)
theorem drC_len (hs : List Nat) : (drC hs).length = szC hs := by simp [drC]
theorem drC_w4 (hs : List Nat) : ∀ wd ∈ drC hs, ∃ m, wd = W4.getD (m % 4) [] := by
  intro wd h
  obtain ⟨p, _, rfl⟩ := List.mem_map.mp h
  exact ⟨_, rfl⟩
theorem w4m_len {wd : List Nat} (h : ∃ m, wd = W4.getD (m % 4) []) : wd.length ≤ 3 ∧ (∀ c ∈ wd, c < 128) ∧ wd ≠ [] := by
  obtain ⟨m, rfl⟩ := h
  exact ⟨(w4_len m).1, (w4_len m).2, w4_ne m⟩
theorem w3_get (n : Nat) : ([[34], [92, 10], [97], [98, 32, 99]] : LL)[n % 4]? = some (W4.getD ((n % 4 + 2) % 4) []) := by
  have h : n % 4 < 4 := Nat.mod_lt _ (by decide)
  generalize n % 4 = m at *
  match m, h with
  | 0, _ => rfl
  | 1, _ => rfl
  | 2, _ => rfl
  | 3, _ => rfl
theorem toks_gen : ∀ (l : List (List Nat × Nat)) (pre : List Nat), (∀ c ∈ pre, isWs c = true) → (∀ p ∈ l, ∃ m, p.1 = W4.getD (m % 4) []) → Toks (pre ++ (l.map fun p => spell p.1 p.2).flatten) (l.map fun p => p.1) []
  | [], pre, h, _ => .done (by rw [tok_ws _ _ h]; rfl)
  | (wd, n) :: l, pre, h, hw => by
    obtain ⟨m, hm⟩ := hw _ (.head _)
    dsimp only at hm
    subst hm
    rw [List.map_cons, List.map_cons, List.flatten_cons]
    refine .more (r := (white n).drop 1 ++ (l.map fun p => spell p.1 p.2).flatten) ?_ (w4_ne m) ?_ (toks_gen l _ (white_ws n) fun p hp => hw p (.tail _ hp))
    · rw [tok_ws _ _ h]; exact tok_spell m n _
    · have := spell_ge (W4.getD (m % 4) []) n
      rw [List.length_append, List.length_append, List.length_append]
      show _ ≤ _ + ((spell (W4.getD (m % 4) []) n).length + _)
      (first | lia | omega)
theorem toks_txt3 (hs : List Nat) : Toks (txt3 hs) (drC hs) [] := by
  have := toks_gen ((List.range (szC hs)).map fun p => (drw hs p, hs.getD (p + 2) 0 + p)) [] (fun _ h => nomatch h) (by
    intro p hp
    obtain ⟨i, hi, rfl⟩ := List.mem_map.mp hp
    exact ⟨_, rfl⟩)
  rw [List.map_map, List.map_map] at this
  exact this
theorem flat_le {f : Nat → List Nat} {B : Nat} : ∀ n : Nat, (∀ i, i < n → (f i).length ≤ B) → ((List.range n).map f).flatten.length ≤ n * B
  | 0, _ => by simp
  | n + 1, h => by
    have ih := flat_le n fun i hi => h i (by (first | lia | omega))
    have h1 := h n (by (first | lia | omega))
    rw [List.range_succ, List.map_append, List.flatten_append, List.length_append]
    simp only [List.map_cons, List.map_nil, List.flatten_cons, List.flatten_nil, List.append_nil]
    rw [Nat.succ_mul]
    (first | lia | omega)
theorem txt3_len (hs : List Nat) : (txt3 hs).length < 5000 := by
  have hw := szC_le hs
  have key : ∀ i, i < szC hs → (spell (drw hs i) (hs.getD (i + 2) 0 + i)).length ≤ 10 := by
    intro i hi
    have h1 := (w4m_len ⟨_, rfl⟩ : (drw hs i).length ≤ 3 ∧ _).1
    have h2 := spell_len (drw hs i) (hs.getD (i + 2) 0 + i)
    (first | lia | omega)
  have := flat_le (f := fun i => spell (drw hs i) (hs.getD (i + 2) 0 + i)) _ key
  unfold txt3
  have : szC hs * 10 ≤ 80 := Nat.mul_le_mul_right 10 hw.2
  (first | lia | omega)
end Mine
end

section
open PySem PySem.W PySem.Calls PyProof.Rows
namespace Mine

def rots (l : LL) : List (List Str) := (List.range l.length).map fun i => (rotL i l).map stS
def bkF (l : LL) (i : Nat) : Option Nat := if (l.map stS).drop (i + 1) ++ (l.map stS).take (i + 1) = l.map stS then some (i + 1) else none
structure P3 (l : LL) (b : Nat) : Prop where
  len : 5 ≤ l.length ∧ l.length ≤ 8
  flt : ∀ i, i < l.length → (pcs (rotL i l)).flatten = rotL i l
  fal : ∀ i, i < l.length → FalP ((pcs (rotL i l)).map wrt)
  ne : ∀ i, i < l.length → ∀ p ∈ pcs (rotL i l), ∀ wd ∈ p, wd ≠ []
  rt : ∀ i, i < l.length → rootF ((rotL i l).map stS) = b
  bk : ((List.range l.length).filterMap (bkF l))[0]? = some b

set_option maxRecDepth 100000 in
set_option maxHeartbeats 8000000 in
theorem la_C {w : World} {A : Around} {E : Value → Shared → Prop} {h0 h : Heap} {gs : Array GenState} {dr : Drawn} {tk : Nat} {os : OsState} {Q : Flow → Shared → Prop} {ps : Array Value} {fd : FuncData} {oc : Value} {od : Option Addr} {sl : Array (Option Value)} {body : List Stmt} {L dD lD tD : Addr} {lv : List (Str × Value)} {l : LL} {las : List Addr} {es : List TE} {b : Nat} {ts : Tok}
    (ho : (KK w).lookup 114 = some ⟨oc, od, .func fd, sl⟩) (hb : fd.body = .stmts body)
    (H : Led (KK w) h0 h [objD 75 (tabObj ps)] [nsD L lv, cellD (L + 3) (some (.ref dD)), strsD dD (l.map stS), rowsD lD las (rots l), turnsD tD es])
    (e1 : lv.lookup ("size" : Str) = some (.int (l.length : Nat) ts)) (e2 : lv.lookup ("lines" : Str) = some (.ref lD)) (e3 : lv.lookup ("turns" : Str) = some (.ref tD)) (hes : es.map (fun e : TE => e.2.2) = trn l l.length) (hP : P3 l b)
    (hd : A.depth < 420) (hu : A.units < 420) (hA : A.handled = none)
    (k : ∀ h' tk', Led (KK w) h0 h' [objD 75 (tabObj ps)] [] → Q (.ret (.bool true)) ⟨h', gs, dr, tk', os⟩) :
    wpAny (model PG w) A (execs (body.drop 12) (callEnvC fd L 114)) Q E ⟨h, gs, dr, tk, os⟩ := by
  have e0 : (KK w).lookup 114 = some _ := rfl
  rw [e0] at ho
  cases ho
  cases hb
  clear e0
  have hl8 := hP.len
  dsimp only [List.drop]
  repeat' walk1
  refine comp_filter (β := Nat) (K := KK w) (g := h0) l.length (fun v (n : Nat) => IV v n) (bkF l) (fun _ => [objD 75 (tabObj ps)])
    [nsD L lv, cellD (L + 3) (some (.ref dD)), strsD dD (l.map stS), rowsD lD las (rots l), turnsD tD es]
    (by (first | lia | omega)) (by intro _; rfl) (by rfl) (by rfl) (by rfl) (by rfl) (by rfl) ?_
  repeat' walk1
  refine r_range2 H ?_; intro r1 h1 tk1 H1
  refine r_itR (n := l.length) (N := [_, _, _, _, _]) H1 (small_one (by (first | lia | omega)) (by (first | lia | omega)) (by (first | lia | omega)) (by (first | lia | omega))) (by rw [rangeSize_one]; split <;> (first | lia | omega)) ?_; intro it2 h2 tk2 H2
  refine ⟨it2, _, _, _, h2, tk2, rfl, rfl, itr_range hA, H2, fun _ _ _ _ _ => trivial, ?_, ?_, ?_⟩
  · clear H H1 H2
    intro E2 C2 D2 i lv2 acc v h3 tk3 NN2 hNN2 hi hv f1 hacc H3
    obtain ⟨t3, rfl⟩ := hv
    try simp only [List.cons_append, List.nil_append] at H3
    repeat' walk1
    obtain ⟨v4, l4, p4⟩ := H3.strs (j := 3) (by rfl)
    refine r_from H3 l4.isList p4 (by rw [List.length_map]; (first | lia | omega)) (by (first | lia | omega)) (by rfl) ?_; intro D5 h5 tk5 H5
    simp only [List.cons_append, List.nil_append] at H5
    rw [show (1 + (i : Int) * 1).toNat = i + 1 by (first | lia | omega)] at H5
    clear H3 l4 p4 v4
    repeat' walk1
    obtain ⟨v6, l6, p6⟩ := H5.strs (j := 3) (by rfl)
    refine r_upto H5 l6.isList p6 (by rw [List.length_map]; (first | lia | omega)) (by (first | lia | omega)) (by rfl) ?_; intro D7 h7 tk7 H7
    simp only [List.cons_append, List.nil_append] at H7
    rw [show (1 + (i : Int) * 1).toNat = i + 1 by (first | lia | omega)] at H7
    clear H5 l6 p6 v6
    obtain ⟨v8, l8, p8⟩ := H7.strs (j := 8) (by rfl)
    obtain ⟨v9, l9, p9⟩ := H7.strs (j := 9) (by rfl)
    refine r_addL H7 l8 p8 l9 p9 (by rw [List.length_drop, List.length_take, List.length_map]; (first | lia | omega)) ?_; intro D10 h10 tk10 H10
    simp only [List.cons_append, List.nil_append] at H10
    clear H7 l8 p8 v8 l9 p9 v9
    repeat' walk1
    obtain ⟨v11, l11, p11⟩ := H10.strs (j := 10) (by rfl)
    obtain ⟨v12, l12, p12⟩ := H10.strs (j := 3) (by rfl)
    refine r_eqSS l11.isList p11 l12.isList p12 (by show _ < 9900; (first | lia | omega)) ?_
    have H13 := H10.sub (N' := [nsD C2 lv2, nsD L lv, cellD (L + 3) (some (.ref dD)), strsD dD (l.map stS), rowsD lD las (rots l), turnsD tD es, riD it2 (1 + ((i + 1 : Nat) : Int) * 1) ((l.length : Int) - ((i + 1 : Nat) : Int)) 1, plainD D2 acc]) (.cons_cons _ (.cons_cons _ (.cons_cons _ (.cons_cons _ (.cons_cons _ (.cons_cons _ (.cons_cons _ (.cons_cons _ (.cons _ (.cons _ (.cons _ .slnil)))))))))))
    clear H10 l11 l12
    walk1
    refine TQ.mk hNN2 ?_ H13
    unfold bkF
    by_cases hq : (l.map stS).drop (i + 1) ++ (l.map stS).take (i + 1) = l.map stS
    · rw [decide_eq_true hq, if_pos hq]; rfl
    · rw [decide_eq_false hq, if_neg hq]; rfl
  · clear H H1 H2
    intro E2 C2 D2 i lv2 acc v h3 tk3 z NN2 hNN2 hi hv hz f1 hacc H3
    obtain ⟨t3, rfl⟩ := hv
    try simp only [List.cons_append, List.nil_append] at H3
    repeat' walk1
    refine TP.mk hNN2 ⟨t3, ?_⟩ H3
    unfold bkF at hz
    split at hz
    · cases hz
      rw [show 1 + (i : Int) * 1 = ((i + 1 : Nat) : Int) by (first | lia | omega)]
    · cases hz
  clear H H1 H2
  intro C3 bD lv3 acc3 h3 tk3 hp3 H3
  refine uend_none (N := [_, _, _, _, _]) H3 fun h4 H4 => ?_
  simp only [List.cons_append, List.nil_append] at H4
  clear H3
  repeat' walk1
  have H5 := H4.conv (j := 5) (d' := pintsD bD (zs ((List.range l.length).filterMap (bkF l)))) (by rfl) (by rfl) (fun p => ⟨_, p, paired_ints hp3⟩)
  simp only [List.set_cons_zero, List.set_cons_succ] at H5
  clear H4 hp3
  obtain ⟨v6, l6, p6⟩ := H5.pints (j := 5) (by rfl)
  have hz0 : (zs ((List.range l.length).filterMap (bkF l)))[(0 : Int).toNat]? = some ((b : Nat) : Int) := by
    unfold zs
    rw [List.getElem?_map]
    show Option.map _ (((List.range l.length).filterMap (bkF l))[0]?) = _
    rw [hP.bk]; rfl
  refine r_itemZ l6.isList p6 (by decide) (by decide) hz0 ?_ (by with_unfolding_all rfl); intro t7
  have H6 := H5.sub (N' := [nsD L lv, cellD (L + 3) (some (.ref dD)), strsD dD (l.map stS), rowsD lD las (rots l), turnsD tD es]) (.cons_cons _ (.cons_cons _ (.cons_cons _ (.cons_cons _ (.cons_cons _ (.cons _ .slnil))))))
  clear H5 l6 p6 hz0
  repeat' walk1
  rename Led _ _ _ _ _ => H8
  clear H6
  refine r_for (by intro _; rfl) ?_
  repeat' walk1
  refine r_range1 H8 ?_; intro r9 h9 tk9 H9
  refine r_itR (n := l.length) (N := [_, _, _, _, _]) H9 (small_one (by (first | lia | omega)) (by (first | lia | omega)) (by (first | lia | omega)) (by (first | lia | omega))) (by rw [rangeSize_one]; split <;> (first | lia | omega)) ?_; intro it10 h10 tk10 H10
  simp only [List.cons_append, List.nil_append] at H10
  obtain ⟨I1, hI1⟩ : ∃ I : Nat → Heap → Prop, I = (fun m h' => ∃ (i : Nat) (lv : List (Str × Value)), m = l.length - i ∧ i ≤ l.length ∧ lv.lookup ("lines" : Str) = some (.ref lD) ∧ lv.lookup ("turns" : Str) = some (.ref tD) ∧ lv.lookup ("back" : Str) = some (.int (b : Nat) t7) ∧ Led (KK w) h0 h' [objD 75 (tabObj ps)] [nsD L lv, cellD (L + 3) (some (.ref dD)), strsD dD (l.map stS), rowsD lD las (rots l), turnsD tD es, riD it10 (0 + (i : Int) * 1) ((l.length : Int) - (i : Int)) 1]) := ⟨_, rfl⟩
  refine ⟨I1, l.length, _, _, rfl, I_mk hI1 ⟨0, _, rfl, by (first | lia | omega), by exact e2, by exact e3, by rfl, H10⟩, by intro _; rfl, ?_⟩
  clear H8 H9 H10 e1 e2 e3
  intro E2 n11 h11 tk11 hJ11
  obtain ⟨i, lv2, hn, hi, e2, e3, e4, H11⟩ := I_out hI1 hJ11
  clear hJ11
  by_cases hil : i < l.length
  · refine r_nextR (j := 5) H11 (by rfl) (by (first | lia | omega)) ?_; intro t12 h12 tk12 H12
    simp only [List.set_cons_zero, List.set_cons_succ] at H12
    clear H11
    repeat' walk1
    rename Led _ _ _ _ _ => H13
    clear H12
    refine callWith_K (K := KK w) H13.gd.frag (by rfl) ?_
    repeat' walk1
    have hget : ∀ {α : Type} (l : List α) (d : α) (i : Nat), i < l.length → l[i]? = some (l.getD i d) := fun l d i hx => by rw [List.getD_eq_getElem?_getD, List.getElem?_eq_getElem hx]; rfl
    have hel : es.length = l.length := by have := congrArg List.length hes; simpa [trn] using this
    obtain ⟨⟨t1, as1, rs1⟩, hei⟩ : ∃ e : TE, es[i]? = some e := ⟨_, hget es (0, [], []) i (by (first | lia | omega))⟩
    have hrs : rs1 = (pcs (rotL i l)).map (List.map stS) := by
      have := congrArg (fun z => z[i]?) hes
      simp only [List.getElem?_map, hei] at this
      unfold trn at this
      rw [List.getElem?_map, List.getElem?_range (by (first | lia | omega))] at this
      simpa using this
    subst hrs
    obtain ⟨lT, dT⟩ : (turnsD tD es).P _ := H13.at (j := 4) (by rfl)
    have hrow : (rowsD t1 as1 ((pcs (rotL i l)).map (List.map stS))).P _ := dT _ (List.mem_map.mpr ⟨_, List.mem_of_getElem? hei, rfl⟩)
    refine r_item lT.isList (by (first | lia | omega)) (by (first | lia | omega)) (v := .ref t1) (by rw [show (0 + (i : Int) * 1).toNat = i by (first | lia | omega), List.getElem?_map, hei]; rfl) ?_ (by with_unfolding_all rfl)
    repeat' walk1
    · exact H13.gd.frag
    refine wpAny_call (fa_call H13.gd hrow (hP.ne i hil) (hP.fal i hil) (by (first | lia | omega)) (by (first | lia | omega)) hA ?_); intro h14 tk14 H14
    have H15 := H13.back0 H14
    clear H13 H14 hrow lT dT
    dsimp only
    repeat' walk1
    refine callWith_K (K := KK w) H15.gd.frag (by rfl) ?_
    repeat' walk1
    obtain ⟨lR, pR⟩ : (rowsD lD las (rots l)).P _ := H15.at (j := 3) (by rfl)
    obtain ⟨r1, hr1, vr, lr, pr⟩ := Paired.get pR (i := i) (y := (rotL i l).map stS) (by unfold rots; rw [List.getElem?_map, List.getElem?_range (by (first | lia | omega))]; rfl)
    refine r_item lR.isList (by (first | lia | omega)) (by (first | lia | omega)) (v := .ref r1) (by rw [show (0 + (i : Int) * 1).toNat = i by (first | lia | omega), List.getElem?_map, hr1]; rfl) ?_ (by with_unfolding_all rfl)
    repeat' walk1
    · exact H15.gd.frag
    have hrl : (rotL i l).length = l.length := by unfold rotL; rw [List.length_append, List.length_drop, List.length_take]; (first | lia | omega)
    refine wpAny_call (ro_call H15.gd lr.isList pr (by (first | lia | omega)) (by (first | lia | omega)) hA (by rw [List.length_map]; (first | lia | omega)) (by rw [List.length_map]; (first | lia | omega)) ?_); intro t16 h16 tk16 H16
    have H17 := H15.back0 H16
    clear H15 H16 lR pR lr pr
    rw [hP.rt i hil]
    dsimp only
    repeat' walk1
    · rename ¬ _ => hnn
      exact absurd rfl hnn
    · rw [show (0 : Int) + (i : Int) * 1 + 1 = 0 + ((i + 1 : Nat) : Int) * 1 by (first | lia | omega), show (l.length : Int) - (i : Int) - 1 = (l.length : Int) - ((i + 1 : Nat) : Int) by (first | lia | omega)] at H17
      exact Nx.mk (m := l.length - (i + 1)) (by (first | lia | omega)) (I_mk hI1 ⟨i + 1, _, rfl, by (first | lia | omega), by exact e2, by exact e3, by exact e4, H17⟩)
  · refine r_nextR_end (j := 5) H11 hA (by rfl) (by (first | lia | omega)) ?_; intro h12 tk12 H12
    simp only [List.eraseIdx_cons_succ, List.eraseIdx_cons_zero] at H12
    clear H11
    repeat' walk1
    exact k _ _ (H12.sub (List.nil_sublist _))
end Mine
end

section
open PySem PySem.W PySem.Calls PyProof.Rows
namespace Mine

theorem eqL_rows {A : Around} {s : Shared} (hu : A.units < 9000) : ∀ {as bs : List Addr} {rs : List (List Str)}, Paired (fun b xs => ∃ vs : List Value, s.heap.PlainList b vs.toArray ∧ Paired SV vs xs) as rs → Paired (fun b xs => ∃ vs : List Value, s.heap.PlainList b vs.toArray ∧ Paired SV vs xs) bs rs →
    (∀ a ∈ as, a ∉ bs) → ∃ bits, EqL A s (as.map Value.ref) (bs.map Value.ref) bits ∧ bits.all id = true
  | _, _, _, .nil, .nil, _ => ⟨[], trivial, rfl⟩
  | a :: as, b :: bs, x :: rs, .cons ⟨vs, l1, p1⟩ t1, .cons ⟨us, l2, p2⟩ t2, h => by
    obtain ⟨bits, e, q⟩ := eqL_rows hu t1 t2 fun a ha hb => h a (.tail _ ha) (.tail _ hb)
    have hr := rc_strs (A := A.in1) l1.isList p1 l2.isList p2 (by show _ < 9900; have : A.in1.units = A.units + 1 := rfl; (first | lia | omega))
    rw [decide_eq_true rfl] at hr
    exact ⟨true :: bits, ⟨PySem.SeqAt.EqAt.of_refs (fun hab => h a (.head _) (hab ▸ .head _)) hr, e⟩, by rw [List.all_cons, q]; rfl⟩
theorem r_neRR {prog : Program} {w : World} {A : Around} {E : Value → Shared → Prop} {s : Shared} {Q : Value → Shared → Prop} {l b : Addr} {as bs : List Addr} {rs : List (List Str)} (hu : A.units < 9000) (hl : (rowsD l as rs).P s.heap) (hb : (rowsD b bs rs).P s.heap) (ha : ∀ a ∈ as, a ∉ bs) (q : Q (.bool false) s) :
    wpAny (model prog w) A (compareOp .NotEq (.ref l) (.ref b)) Q E s := by
  obtain ⟨bits, e, q1⟩ := eqL_rows (A := A) hu hl.2 hb.2 ha
  have key := rc_neL (A := A) hl.1.isList hb.1.isList (by show _ < 9900; (first | lia | omega)) e
  rw [q1] at key
  exact key _ _ _ _ q
theorem rots_len (l : LL) : (rots l).length = l.length := by simp [rots]
theorem rots_get {l : LL} {i : Nat} (h : i < l.length) : (rots l)[i]? = some ((rotL i l).map stS) := by unfold rots; rw [List.getElem?_map, List.getElem?_range h]; rfl
theorem rots_take {l : LL} {i : Nat} (h : i < l.length) : (rots l).take (i + 1) = (rots l).take i ++ [(rotL i l).map stS] := by rw [List.take_add_one, rots_get h]; rfl
theorem flat_split {α : Type} (P : List (List α)) {j : Nat} {p : List α} (h : P[j]? = some p) : P.flatten = (P.take j).flatten ++ (p ++ (P.drop (j + 1)).flatten) := by
  obtain ⟨hlt, e⟩ := List.getElem?_eq_some_iff.mp h
  conv => lhs; rw [← List.take_append_drop j P]
  rw [List.flatten_append, List.drop_eq_getElem_cons hlt, e, List.flatten_cons]
theorem take_flat {α : Type} (P : List (List α)) {j : Nat} {p : List α} (h : P[j]? = some p) : (P.take (j + 1)).flatten = (P.take j).flatten ++ p := by
  rw [List.take_add_one, h, List.flatten_append]; simp
theorem rotS {l : LL} {i : Nat} : (l.map stS).drop i ++ (l.map stS).take i = (rotL i l).map stS := by unfold rotL; rw [List.map_append, List.map_drop, List.map_take]

set_option maxRecDepth 100000 in
set_option maxHeartbeats 8000000 in
theorem la_B {w : World} {A : Around} {E : Value → Shared → Prop} {h0 h : Heap} {gs : Array GenState} {dr : Drawn} {tk : Nat} {os : OsState} {Q : Flow → Shared → Prop} {ps : Array Value} {fd : FuncData} {oc : Value} {od : Option Addr} {sl : Array (Option Value)} {body : List Stmt} {L dD : Addr} {a : LA} {T : Int} {lv : List (Str × Value)} {l : LL} {b : Nat} {ts : Tok}
    (ho : (KK w).lookup 114 = some ⟨oc, od, .func fd, sl⟩) (hb : fd.body = .stmts body)
    (H : Led (KK w) h0 h [objD 75 (tabObj ps)] [nsD L lv, cellD (L + 4) (some (.ref a.x)), cellD (L + 3) (some (.ref dD)), strsD dD (l.map stS), lexF w a (l.map stS) [] T])
    (e1 : lv.lookup ("size" : Str) = some (.int (l.length : Nat) ts)) (hP : P3 l b) (hT : 0 ≤ T ∧ T < 100000)
    (hd : A.depth < 420) (hu : A.units < 420) (hA : A.handled = none)
    (k : ∀ h' tk', Led (KK w) h0 h' [objD 75 (tabObj ps)] [] → Q (.ret (.bool true)) ⟨h', gs, dr, tk', os⟩) :
    wpAny (model PG w) A (execs (body.drop 9) (callEnvC fd L 114)) Q E ⟨h, gs, dr, tk, os⟩ := by
  have e0 : (KK w).lookup 114 = some _ := rfl
  have hoC := ho
  have hbC := hb
  rw [e0] at ho
  cases ho
  cases hb
  clear e0
  have hl8 := hP.len
  dsimp only [List.drop]
  walk1
  refine exec_LC (by rfl) (by rfl) (by rfl) ?_
  refine comp_core (K := KK w) (by intro _; rfl) (by rfl) (by rfl) (by rfl) (by rfl) ?_
  repeat' walk1
  refine r_range1 H ?_; intro r1 h1 tk1 H1
  refine r_itR (n := l.length) (N := [_, _, _, _, _]) H1 (small_one (by (first | lia | omega)) (by (first | lia | omega)) (by (first | lia | omega)) (by (first | lia | omega))) (by rw [rangeSize_one]; split <;> (first | lia | omega)) ?_; intro it2 h2 tk2 H2
  refine ⟨h0, h2, tk2, _, _, rfl, H2, by intro _; rfl, fun C D h3 tk3 H3 => ?_⟩
  simp only [List.cons_append, List.nil_append] at H3
  have H4 := H3.conv (j := 7) (d' := rowsD D [] ((rots l).take 0)) (by rfl) (by rfl) (fun p => ⟨p, .nil⟩)
  simp only [List.set_cons_zero, List.set_cons_succ] at H4
  clear H H1 H2
  obtain ⟨I1, hI1⟩ : ∃ I : Nat → Heap → Prop, I = (fun m h' => ∃ (i : Nat) (lv2 : List (Str × Value)) (as : List Addr), m = l.length - i ∧ i ≤ l.length ∧ as.length = i ∧ Led (KK w) h0 h' [objD 75 (tabObj ps)] [nsD C lv2, nsD L lv, cellD (L + 4) (some (.ref a.x)), cellD (L + 3) (some (.ref dD)), strsD dD (l.map stS), lexF w a (l.map stS) [] T, riD it2 (0 + (i : Int) * 1) ((l.length : Int) - (i : Int)) 1, rowsD D as ((rots l).take i)]) := ⟨_, rfl⟩
  refine ⟨fun Q E' q => wpAny_pyIter_rangeiter (s := ⟨h3, _, _, _, _⟩) (H3.at (j := 6) (d := riD it2 (0 + ((0 : Nat) : Int) * 1) ((l.length : Int) - ((0 : Nat) : Int)) 1) rfl) q, I1, l.length, I_mk hI1 ⟨0, [], [], rfl, by (first | lia | omega), rfl, H4⟩, ?_⟩
  clear H3 H4
  intro E2 n5 h5 tk5 hJ5
  obtain ⟨i, lv2, as, hn, hi, has, H5⟩ := I_out hI1 hJ5
  clear hJ5
  by_cases hil : i < l.length
  · refine r_nextR (j := 6) H5 (by rfl) (by (first | lia | omega)) ?_; intro t6 h6 tk6 H6
    simp only [List.set_cons_zero, List.set_cons_succ] at H6
    clear H5
    repeat' walk1
    rename Led _ _ _ _ _ => H7
    clear H6
    obtain ⟨v4, l4, p4⟩ := H7.strs (j := 4) (by rfl)
    refine r_from H7 l4.isList p4 (by rw [List.length_map]; (first | lia | omega)) (by (first | lia | omega)) (by rfl) ?_; intro D8 h8 tk8 H8
    simp only [List.cons_append, List.nil_append] at H8
    rw [show (0 + (i : Int) * 1).toNat = i by (first | lia | omega)] at H8
    clear H7 l4 p4 v4
    repeat' walk1
    obtain ⟨v6, l6, p6⟩ := H8.strs (j := 4) (by rfl)
    refine r_upto H8 l6.isList p6 (by rw [List.length_map]; (first | lia | omega)) (by (first | lia | omega)) (by rfl) ?_; intro D9 h9 tk9 H9
    simp only [List.cons_append, List.nil_append] at H9
    rw [show (0 + (i : Int) * 1).toNat = i by (first | lia | omega)] at H9
    clear H8 l6 p6 v6
    obtain ⟨v8, l8, p8⟩ := H9.strs (j := 8) (by rfl)
    obtain ⟨v9, l9, p9⟩ := H9.strs (j := 9) (by rfl)
    refine r_addL H9 l8 p8 l9 p9 (by rw [List.length_drop, List.length_take, List.length_map]; (first | lia | omega)) ?_; intro D10 h10 tk10 H10
    simp only [List.cons_append, List.nil_append] at H10
    rw [rotS] at H10
    clear H9 l8 p8 v8 l9 p9 v9
    have H11 := H10.sub (N' := [nsD C (("turn", .int (0 + (i : Int) * 1) t6) :: lv2), nsD L lv, cellD (L + 4) (some (.ref a.x)), cellD (L + 3) (some (.ref dD)), strsD dD (l.map stS), lexF w a (l.map stS) [] T, riD it2 (0 + (i : Int) * 1 + 1) ((l.length : Int) - (i : Int) - 1) 1, rowsD D as ((rots l).take i), strsD D10 ((rotL i l).map stS)]) (.cons_cons _ (.cons_cons _ (.cons_cons _ (.cons_cons _ (.cons_cons _ (.cons_cons _ (.cons_cons _ (.cons_cons _ (.cons _ (.cons _ (.cons_cons _ .slnil)))))))))))
    clear H10
    refine r_appRows (B1 := [nsD C (("turn", .int (0 + (i : Int) * 1) t6) :: lv2), nsD L lv, cellD (L + 4) (some (.ref a.x)), cellD (L + 3) (some (.ref dD)), strsD dD (l.map stS), lexF w a (l.map stS) [] T, riD it2 (0 + (i : Int) * 1 + 1) ((l.length : Int) - (i : Int) - 1) 1]) (B2 := []) H11 (by (first | lia | omega)) ?_; intro h12 H12
    rw [← rots_take hil, show (0 : Int) + (i : Int) * 1 + 1 = 0 + ((i + 1 : Nat) : Int) * 1 by (first | lia | omega), show (l.length : Int) - (i : Int) - 1 = (l.length : Int) - ((i + 1 : Nat) : Int) by (first | lia | omega)] at H12
    exact Nx.mk (m := l.length - (i + 1)) (by (first | lia | omega)) (I_mk hI1 ⟨i + 1, _, _, rfl, by (first | lia | omega), by rw [List.length_append, has]; rfl, H12⟩)
  have hie : i = l.length := by (first | lia | omega)
  refine r_nextR_end (j := 6) H5 hA (by rfl) (by (first | lia | omega)) ?_; intro h6 tk6 H6
  simp only [List.eraseIdx_cons_succ, List.eraseIdx_cons_zero] at H6
  rw [hie, List.take_of_length_le (by rw [rots_len]; (first | lia | omega))] at H6
  clear H5
  refine uend_sto (N := [cellD (L + 4) (some (.ref a.x)), cellD (L + 3) (some (.ref dD)), strsD dD (l.map stS), lexF w a (l.map stS) [] T]) H6 (by rfl) (by rfl) (by rfl) ?_
  intro h7 tk7 H7
  simp only [List.cons_append, List.nil_append] at H7
  clear H6
  repeat' walk1
  refine callWith_K (K := KK w) H7.gd.frag (by rfl) ?_
  repeat' walk1
  · exact H7.gd.frag
  refine wpAny_call (tn_call (H7.calleeN (j := 4) (by rfl)) (by (first | lia | omega)) (by (first | lia | omega)) hA hT (by (first | lia | omega)) ?_); intro tD es h8 tk8 hes H8
  have H9 := H7.backNN (j := 4) (by rfl) (by rfl) H8
  simp only [List.set_cons_zero, List.set_cons_succ, List.cons_append, List.nil_append] at H9
  clear H7 H8
  dsimp only
  repeat' walk1
  rename Led _ _ _ _ _ => H10
  clear H9
  have H11 := H10.sub (N' := [nsD L (("turns", .ref tD) :: ("lines", .ref D) :: lv), cellD (L + 3) (some (.ref dD)), strsD dD (l.map stS), rowsD D as (rots l), turnsD tD es]) (.cons_cons _ (.cons _ (.cons_cons _ (.cons_cons _ (.cons _ (.cons_cons _ (.cons_cons _ .slnil)))))))
  clear H10 hn hi hil E2
  generalize as = as0 at H11 has
  have hel : es.length = l.length := by have := congrArg List.length hes; simpa [trn] using this
  have f1 : ((("turns" : Str), Value.ref tD) :: (("lines" : Str), Value.ref D) :: lv).lookup ("size" : Str) = some (.int (l.length : Nat) ts) := e1
  have f2 : ((("turns" : Str), Value.ref tD) :: (("lines" : Str), Value.ref D) :: lv).lookup ("lines" : Str) = some (.ref D) := by rfl
  have f3 : ((("turns" : Str), Value.ref tD) :: (("lines" : Str), Value.ref D) :: lv).lookup ("turns" : Str) = some (.ref tD) := by rfl
  generalize ((("turns" : Str), Value.ref tD) :: (("lines" : Str), Value.ref D) :: lv) = lv1 at H11 f1 f2 f3
  clear e1
  refine comp_core (K := KK w) (by intro _; rfl) (by rfl) (by rfl) (by rfl) (by rfl) ?_
  repeat' walk1
  obtain ⟨lT, dT⟩ : (turnsD tD es).P _ := H11.at (j := 4) (by rfl)
  refine r_iterL H11 lT.isList ?_; intro it12 h12 tk12 H12
  refine ⟨h0, h12, tk12, _, _, rfl, H12, by intro _; rfl, fun C2 D2 h13 tk13 H13 => ?_⟩
  simp only [List.cons_append, List.nil_append] at H13
  have H14 := H13.conv (j := 7) (d' := rowsD D2 [] ((rots l).take 0)) (by rfl) (by rfl) (fun p => ⟨p, .nil⟩)
  simp only [List.set_cons_zero, List.set_cons_succ] at H14
  clear H11 H12 lT dT
  obtain ⟨I2, hI2⟩ : ∃ I : Nat → Heap → Prop, I = (fun m h' => ∃ (i : Nat) (lv2 : List (Str × Value)) (as : List Addr), m = l.length - i ∧ i ≤ l.length ∧ as.length = i ∧ Led (KK w) h0 h' [objD 75 (tabObj ps)] [nsD C2 lv2, nsD L lv1, cellD (L + 3) (some (.ref dD)), strsD dD (l.map stS), rowsD D as0 (rots l), turnsD tD es, liD it12 tD i, rowsD D2 as ((rots l).take i)]) := ⟨_, rfl⟩
  refine ⟨fun Q E' q => wpAny_pyIter_listiter (s := ⟨h13, _, _, _, _⟩) (H13.at (j := 6) (d := liD it12 tD 0) rfl) q, I2, l.length, I_mk hI2 ⟨0, [], [], rfl, by (first | lia | omega), rfl, H14⟩, ?_⟩
  clear H13 H14
  intro E3 n15 h15 tk15 hJ15
  obtain ⟨i, lv2, as, hn, hi, has, H15⟩ := I_out hI2 hJ15
  clear hJ15
  obtain ⟨lT, dT⟩ : (turnsD tD es).P _ := H15.at (j := 5) (by rfl)
  by_cases hil : i < l.length
  · obtain ⟨⟨t1, as1, rs1⟩, hei⟩ : ∃ e : TE, es[i]? = some e := ⟨_, List.getElem?_eq_getElem (by (first | lia | omega))⟩
    have hrs : rs1 = (pcs (rotL i l)).map (List.map stS) := by
      have := congrArg (fun z => z[i]?) hes
      simp only [List.getElem?_map, hei] at this
      unfold trn at this
      rw [List.getElem?_map, List.getElem?_range (by (first | lia | omega))] at this
      simpa using this
    have hfl : rs1.flatten = (rotL i l).map stS := by rw [hrs, ← List.map_flatten, hP.flt i hil]
    have hrl : (rotL i l).length = l.length := by unfold rotL; rw [List.length_append, List.length_drop, List.length_take]; (first | lia | omega)
    have hfl8 : rs1.flatten.length ≤ 8 := by rw [hfl, List.length_map, hrl]; exact hl8.2
    have hrow : ∀ {h' : Heap} {N : List HD}, Led (KK w) h0 h' [objD 75 (tabObj ps)] N → turnsD tD es ∈ N → (rowsD t1 as1 rs1).P h' := fun H' hm => (H'.has hm).2 _ (List.mem_map.mpr ⟨_, List.mem_of_getElem? hei, rfl⟩)
    clear hrs
    obtain ⟨z, hz⟩ : ∃ z, z = (rotL i l).map stS := ⟨_, rfl⟩
    rw [← hz] at hfl
    refine r_nextL (j := 6) H15 (by rfl) lT.isList (x := .ref t1) (by simp [hei]) ?_; intro h16 tk16 H16
    simp only [List.set_cons_zero, List.set_cons_succ] at H16
    clear H15 lT dT
    repeat' walk1
    rename Led _ _ _ _ _ => H17
    clear H16
    refine comp_core2 (K := KK w) (by intro _; rfl) (by intro _ _; rfl) (by rfl) (by rfl) (by rfl) (by rfl) ?_
    walk1
    have hr17 := hrow H17 (by simp)
    have has1 : as1.length = rs1.length := hr17.2.length
    refine r_iterL H17 hr17.1.isList ?_; intro it18 h18 tk18 H18
    simp only [List.cons_append, List.nil_append] at H18
    refine ⟨h0, h18, tk18, _, _, rfl, H18, by intro _; rfl, fun C3 D3 h19 tk19 H19 => ?_⟩
    simp only [List.cons_append, List.nil_append] at H19
    clear H17 H18 hr17
    obtain ⟨I3, hI3⟩ : ∃ I : Nat → Heap → Prop, I = (fun m h' => ∃ (j : Nat) (lv3 : List (Str × Value)) (acc : List Value), m = rs1.length - j ∧ j ≤ rs1.length ∧ Paired SV acc (rs1.take j).flatten ∧ Led (KK w) h0 h' [objD 75 (tabObj ps)] [nsD C3 lv3, nsD C2 (("pieces", .ref t1) :: lv2), nsD L lv1, cellD (L + 3) (some (.ref dD)), strsD dD (l.map stS), rowsD D as0 (rots l), turnsD tD es, liD it12 tD (i + 1), rowsD D2 as ((rots l).take i), liD it18 t1 j, plainD D3 acc]) := ⟨_, rfl⟩
    refine ⟨fun Q E' q => wpAny_pyIter_listiter (s := ⟨h19, _, _, _, _⟩) (H19.at (j := 9) (d := liD it18 t1 0) rfl) q, I3, rs1.length, I_mk hI3 ⟨0, [], [], rfl, by (first | lia | omega), .nil, H19⟩, ?_⟩
    clear H19
    intro E4 n20 h20 tk20 hJ20
    obtain ⟨j, lv3, acc, hn20, hj, hacc, H20⟩ := I_out hI3 hJ20
    clear hJ20
    have hr20 := hrow H20 (by simp)
    by_cases hjl : j < rs1.length
    · obtain ⟨p, hpj⟩ : ∃ p, rs1[j]? = some p := ⟨_, List.getElem?_eq_getElem hjl⟩
      obtain ⟨pj, hpa, _⟩ := Paired.get hr20.2 hpj
      have hsp : (rs1.take j).flatten.length + p.length ≤ 8 := by
        have h1 := congrArg List.length (flat_split rs1 hpj)
        rw [List.length_append, List.length_append] at h1
        (first | lia | omega)
      have hpl : ∀ {h' : Heap} {N : List HD}, Led (KK w) h0 h' [objD 75 (tabObj ps)] N → turnsD tD es ∈ N → ∃ vp : List Value, h'.PlainList pj vp.toArray ∧ Paired SV vp p := fun H' hm => by
        obtain ⟨b', hb', r'⟩ := Paired.get (hrow H' hm).2 hpj
        rw [hpa] at hb'; cases hb'; exact r'
      refine r_nextL (j := 9) H20 (by rfl) hr20.1.isList (x := .ref pj) (by simp [hpa]) ?_; intro h21 tk21 H21
      simp only [List.set_cons_zero, List.set_cons_succ] at H21
      clear H20 hr20
      repeat' walk1
      rename Led _ _ _ _ _ => H22
      clear H21
      obtain ⟨vp, lp, pp⟩ := hpl H22 (by simp)
      refine r_iterL H22 lp.isList ?_; intro it23 h23 tk23 H23
      simp only [List.cons_append, List.nil_append] at H23
      clear H22 lp pp vp
      obtain ⟨I4, hI4⟩ : ∃ I : Nat → Heap → Prop, I = (fun m h' => ∃ (q : Nat) (lv4 : List (Str × Value)) (acc : List Value), m = p.length - q ∧ q ≤ p.length ∧ Paired SV acc ((rs1.take j).flatten ++ p.take q) ∧ Led (KK w) h0 h' [objD 75 (tabObj ps)] [nsD C3 lv4, nsD C2 (("pieces", .ref t1) :: lv2), nsD L lv1, cellD (L + 3) (some (.ref dD)), strsD dD (l.map stS), rowsD D as0 (rots l), turnsD tD es, liD it12 tD (i + 1), rowsD D2 as ((rots l).take i), liD it18 t1 (j + 1), plainD D3 acc, liD it23 pj q]) := ⟨_, rfl⟩
      refine ⟨I4, p.length, h23, tk23, rfl, I_mk hI4 ⟨0, _, acc, rfl, by (first | lia | omega), by simpa using hacc, H23⟩, by intro _; rfl, fun Q E' q => wpAny_pyIter_listiter (s := ⟨h23, _, _, _, _⟩) (H23.at (j := 11) (d := liD it23 pj 0) rfl) q, ?_⟩
      clear H23 hacc lv3 acc
      intro E5 n24 h24 tk24 hJ24
      obtain ⟨q, lv4, acc, hn24, hq, hacc, H24⟩ := I_out hI4 hJ24
      clear hJ24
      obtain ⟨vp, lp, pp⟩ := hpl H24 (by simp)
      have hvp := pp.length
      by_cases hql : q < p.length
      · obtain ⟨y, hy⟩ : ∃ y, p[q]? = some y := ⟨_, List.getElem?_eq_getElem hql⟩
        obtain ⟨vy, hvy, ty, rfl⟩ := Paired.get pp hy
        have htq : p.take (q + 1) = p.take q ++ [y] := by rw [List.take_add_one, hy]; rfl
        have hal := hacc.length
        rw [List.length_append, List.length_take] at hal
        refine r_nextL (j := 11) H24 (by rfl) lp.isList (x := .str y ty) (by simpa using hvy) ?_; intro h25 tk25 H25
        simp only [List.set_cons_zero, List.set_cons_succ] at H25
        clear H24 lp pp
        repeat' walk1
        rename Led _ _ _ _ _ => H26
        clear H25
        have l26 := H26.at (j := 10) (d := plainD D3 acc) rfl
        refine w_app l26 (by (first | lia | omega)) ?_; intro h27 l27 s27
        have H27 := H26.mod (j := 10) (d' := plainD D3 (acc ++ [Value.str y ty])) (by rfl) (by rfl) (sameBut_e s27) l27
        simp only [List.set_cons_zero, List.set_cons_succ] at H27
        exact Nx.mk (m := p.length - (q + 1)) (by (first | lia | omega)) (I_mk hI4 ⟨q + 1, _, acc ++ [.str y ty], rfl, by (first | lia | omega), by rw [htq, ← List.append_assoc]; exact Paired.app hacc (.cons ⟨ty, rfl⟩ .nil), H27⟩)
      · have hqe : q = p.length := by (first | lia | omega)
        refine r_nextL_end (j := 11) H24 hA (by rfl) lp.isList (by simp; (first | lia | omega)) ?_; intro h25 tk25 H25
        simp only [List.eraseIdx_cons_succ, List.eraseIdx_cons_zero] at H25
        rw [hqe, List.take_of_length_le (Nat.le_refl _), ← take_flat rs1 hpj] at hacc
        exact Nx.mk (m := rs1.length - (j + 1)) (by (first | lia | omega)) (I_mk hI3 ⟨j + 1, _, acc, rfl, by (first | lia | omega), hacc, H25⟩)
    · have hje : j = rs1.length := by (first | lia | omega)
      refine r_nextL_end (j := 9) H20 hA (by rfl) hr20.1.isList (by simp; (first | lia | omega)) ?_; intro h21 tk21 H21
      simp only [List.eraseIdx_cons_succ, List.eraseIdx_cons_zero] at H21
      rw [hje, List.take_of_length_le (Nat.le_refl _), hfl] at hacc
      clear H20 hr20
      refine uend_none (N := [_, _, _, _, _, _, _, _]) H21 fun h22 H22 => ?_
      simp only [List.cons_append, List.nil_append] at H22
      clear H21
      have H23 := H22.conv (j := 8) (d' := strsD D3 z) (by rfl) (by rfl) (fun p => ⟨_, p, hacc⟩)
      simp only [List.set_cons_zero, List.set_cons_succ] at H23
      clear H22 hacc
      refine r_appRows (B1 := [nsD C2 (("pieces", .ref t1) :: lv2), nsD L lv1, cellD (L + 3) (some (.ref dD)), strsD dD (l.map stS), rowsD D as0 (rots l), turnsD tD es, liD it12 tD (i + 1)]) (B2 := []) H23 (by (first | lia | omega)) ?_; intro h24 H24
      rw [hz, ← rots_take hil] at H24
      exact Nx.mk (m := l.length - (i + 1)) (by (first | lia | omega)) (I_mk hI2 ⟨i + 1, _, _, rfl, by (first | lia | omega), by rw [List.length_append, has]; rfl, H24⟩)
  have hie : i = l.length := by (first | lia | omega)
  refine r_nextL_end (j := 6) H15 hA (by rfl) lT.isList (by simp; (first | lia | omega)) ?_; intro h16 tk16 H16
  simp only [List.eraseIdx_cons_succ, List.eraseIdx_cons_zero] at H16
  rw [hie, List.take_of_length_le (by rw [rots_len]; (first | lia | omega))] at H16
  clear H15 lT dT
  refine uend_none (N := [_, _, _, _, _]) H16 fun h17 H17 => ?_
  simp only [List.cons_append, List.nil_append] at H17
  clear H16
  repeat' walk1
  have hnd : ∀ a ∈ as, a ∉ as0 := fun a ha hb => by
    refine nodup_apart (l := [nsD L lv1, cellD (L + 3) (some (.ref dD)), strsD dD (l.map stS), rowsD D as0 (rots l), turnsD tD es, rowsD D2 as (rots l)]) (i := 3) (j := 5) ?_ rfl rfl (by decide) (a := a) (.tail _ hb) (.tail _ ha)
    have := H17.nd
    rw [List.flatMap_append] at this
    exact (List.nodup_append.mp this).2.1
  refine r_neRR (by (first | lia | omega)) (H17.at (j := 5) (by rfl)) (H17.at (j := 3) (by rfl)) hnd ?_
  have H18 := H17.sub (N' := [nsD L lv1, cellD (L + 3) (some (.ref dD)), strsD dD (l.map stS), rowsD D as0 (rots l), turnsD tD es]) (.cons_cons _ (.cons_cons _ (.cons_cons _ (.cons_cons _ (.cons_cons _ (.cons _ .slnil))))))
  clear H17 hnd
  walk1
  rw [if_neg (by decide)]
  walk1
  exact la_C hoC hbC H18 f1 f2 f3 hes hP hd hu hA k
end Mine
end

section
open PySem PySem.W PySem.Calls PyProof.Rows
namespace Mine

theorem nsD_at {K : Frag} {g h : Heap} {O : List HD} {d e : HD} {a b c f : HD} (H : Led K g h O [a, b, c, f, d]) (he : d = e) : Led K g h O [a, b, c, f, e] := by subst he; exact H
set_option maxRecDepth 100000 in
set_option maxHeartbeats 8000000 in
theorem la_T {w : World} {A : Around} {E : Value → Shared → Prop} {h0 h : Heap} {gs : Array GenState} {dr : Drawn} {tk : Nat} {os : OsState} {Q : Flow → Shared → Prop} {ps : Array Value} {fd : FuncData} {oc : Value} {od : Option Addr} {sl : Array (Option Value)} {body : List Stmt} {L dD : Addr} {a : LA} {T : Int} {lv : List (Str × Value)} {l : LL} {b : Nat} {ts tt : Tok} {tx : List Nat}
    (ho : (KK w).lookup 114 = some ⟨oc, od, .func fd, sl⟩) (hb : fd.body = .stmts body)
    (H : Led (KK w) h0 h [objD 75 (tabObj ps)] [nsD L lv, cellD (L + 4) (some (.ref a.x)), cellD (L + 3) (some (.ref dD)), strsD dD (l.map stS), lexF w a [] l T])
    (e1 : lv.lookup ("size" : Str) = some (.int (l.length : Nat) ts)) (e2 : lv.lookup ("text" : Str) = some (.str (stS tx) tt)) (hTx : 1 + nls tx = T) (hP : P3 l b) (hT : 0 ≤ T ∧ T < 100000)
    (hd : A.depth < 420) (hu : A.units < 420) (hA : A.handled = none)
    (k : ∀ h' tk', Led (KK w) h0 h' [objD 75 (tabObj ps)] [] → Q (.ret (.bool true)) ⟨h', gs, dr, tk', os⟩) :
    wpAny (model PG w) A (execs (body.drop 6) (callEnvC fd L 114)) Q E ⟨h, gs, dr, tk, os⟩ := by
  have e0 : (KK w).lookup 114 = some _ := rfl
  have hoC := ho
  have hbC := hb
  rw [e0] at ho
  cases ho
  cases hb
  clear e0
  have hl8 := hP.len
  dsimp only [List.drop]
  walk1
  refine exec_LC (by rfl) (by rfl) (by rfl) ?_
  obtain ⟨LX, hLX⟩ : ∃ LX : Nat → HD, LX = fun i => if i ≤ l.length then lexF w a [] (l.drop i) T else lexD w a [] [] T := ⟨_, rfl⟩
  have hL1 : ∀ i, i ≤ l.length → LX i = lexF w a [] (l.drop i) T := fun i hi => by rw [hLX]; exact if_pos hi
  have hL2 : LX (l.length + 1) = lexD w a [] [] T := by rw [hLX]; exact if_neg (by (first | lia | omega))
  clear hLX
  have H0 : Led (KK w) h0 h [objD 75 (tabObj ps)] [nsD L lv, cellD (L + 4) (some (.ref a.x)), cellD (L + 3) (some (.ref dD)), strsD dD (l.map stS), LX 0] := nsD_at H (hL1 0 (by (first | lia | omega))).symm
  clear H
  refine comp_mapN (β := Str) (K := KK w) (g := h0) (l.length + 1) SV (fun i => (l.map stS ++ [("" : Str)]).getD i "") (fun _ => [objD 75 (tabObj ps)]) (fun i => [nsD L lv, cellD (L + 4) (some (.ref a.x)), cellD (L + 3) (some (.ref dD)), strsD dD (l.map stS), LX i])
    (by (first | lia | omega)) (by intro _; rfl) (by rfl) (by rfl) (by rfl) (by rfl) (by rfl) ?_
  repeat' walk1
  refine r_range1 H0 ?_; intro r1 h1 tk1 H1
  refine r_itR (n := l.length + 1) (N := [_, _, _, _, _]) H1 (small_one (by (first | lia | omega)) (by (first | lia | omega)) (by (first | lia | omega)) (by (first | lia | omega))) (by rw [rangeSize_one]; split <;> (first | lia | omega)) ?_; intro it2 h2 tk2 H2
  refine ⟨it2, _, _, _, h2, tk2, rfl, rfl, itr_range hA, H2, fun _ _ _ _ _ => trivial, ?_, ?_⟩
  · clear H0 H1 H2
    intro E2 C D i lv2 acc v h3 tk3 NN2 hNN2 hi _ _ _ H3
    try simp only [List.cons_append, List.nil_append] at H3
    rw [hL1 i (by (first | lia | omega))] at H3
    repeat' walk1
    obtain ⟨rest3, L3⟩ := H3.lexPN (j := 5) (by rfl)
    refine r_lmethod (f := 49) H3.gd L3 (by rfl) (by rfl) (by intros; rfl) ?_
    refine callWith_K0 (K := KK w) H3.gd.frag (by rfl) ?_
    by_cases hil : i < l.length
    · refine wpAny_call (gw_call (i := i) (f := (l.map stS ++ [("" : Str)]).getD i "") (pbk := []) (ws := l) (by rw [List.drop_nil]; exact H3.calleeN (j := 5) (by rfl)) (by rw [List.nil_append, ← getD_some (by rw [List.length_append, List.length_map]; (first | lia | omega)), List.getElem?_append_left (by rw [List.length_map]; (first | lia | omega))]) (by (first | lia | omega)) (by (first | lia | omega)) hA hT (by simp) ?_); intro h4 tk4 t4 H4
      rw [List.drop_nil] at H4
      have H5 := H3.backN (j := 5) (by rfl) (by rfl) H4
      simp only [List.set_cons_zero, List.set_cons_succ] at H5
      refine TP.mk hNN2 ⟨t4, rfl⟩ ?_
      dsimp only
      rw [hL1 (i + 1) (by (first | lia | omega))]
      exact H5
    · have hie : i = l.length := by (first | lia | omega)
      subst hie
      rw [List.drop_of_length_le (Nat.le_refl _)] at H3
      refine wpAny_call (ge_call (H3.calleeN (j := 5) (by rfl)) (by (first | lia | omega)) (by (first | lia | omega)) hA hT ?_); intro h4 tk4 t4 H4
      have H5 := H3.backN (j := 5) (by rfl) (by rfl) H4
      simp only [List.set_cons_zero, List.set_cons_succ] at H5
      refine TP.mk hNN2 ⟨t4, ?_⟩ ?_
      · dsimp only
        rw [List.getD_eq_getElem?_getD, List.getElem?_append_right (by rw [List.length_map]; (first | lia | omega)), List.length_map, Nat.sub_self]; rfl
      · dsimp only; rw [hL2]; exact H5
  clear H0 H1 H2
  intro C3 oD lv3 acc3 h3 tk3 hp3 H3
  have hll : (l.map stS ++ [("" : Str)]).length = l.length + 1 := by rw [List.length_append, List.length_map]; rfl
  rw [range_take (by rw [hll]; (first | lia | omega)), List.take_of_length_le (by rw [hll]; (first | lia | omega))] at hp3
  dsimp only at H3
  rw [hL2] at H3
  clear hL1 hL2
  refine uend_sto (N := [cellD (L + 4) (some (.ref a.x)), cellD (L + 3) (some (.ref dD)), strsD dD (l.map stS), lexD w a [] [] T]) H3 (by rfl) (by rfl) (by rfl) ?_
  intro h4 tk4 H4
  simp only [List.cons_append, List.nil_append] at H4
  clear H3
  have H5 := H4.conv (j := 5) (d' := strsD oD (l.map stS ++ [("" : Str)])) (by rfl) (by rfl) (fun p => ⟨_, p, hp3⟩)
  simp only [List.set_cons_zero, List.set_cons_succ] at H5
  clear H4 hp3
  repeat' walk1
  rename_i t5 tk5 e6 h6 tk6 H6
  clear H5
  obtain ⟨v7, l7, p7⟩ := H6.strs (j := 3) (by rfl)
  have l8 := H6.at (j := 6) (d := plainD e6 [.str "" t5]) rfl
  refine r_addL H6 l7 p7 l8 (.cons ⟨t5, rfl⟩ .nil) (by simp; (first | lia | omega)) ?_; intro D9 h9 tk9 H9
  simp only [List.cons_append, List.nil_append] at H9
  clear H6 l7 p7 l8
  obtain ⟨v10, l10, p10⟩ := H9.strs (j := 5) (by rfl)
  obtain ⟨v11, l11, p11⟩ := H9.strs (j := 7) (by rfl)
  refine r_neSS l10.isList p10 l11.isList p11 (by show _ < 9900; (first | lia | omega)) ?_
  rw [decide_eq_true rfl]
  have H12 := H9.sub (N' := [nsD L (("told", .ref oD) :: lv), cellD (L + 4) (some (.ref a.x)), cellD (L + 3) (some (.ref dD)), strsD dD (l.map stS), lexD w a [] [] T]) (.cons_cons _ (.cons_cons _ (.cons_cons _ (.cons_cons _ (.cons_cons _ (.cons _ (.cons _ (.cons _ .slnil))))))))
  clear H9 l10 l11
  repeat' walk1
  have L13 : LexP w a [] [] T _ := H12.at (j := 4) (d := lexD w a [] [] T) rfl
  refine r_lnA H12.gd L13 ?_; intro t14 tk14
  repeat' walk1
  · rename _ ≠ _ => hq
    exact absurd (by rw [chS_nl, count_nls, nls_nil]; (first | lia | omega)) hq
  rename _ = _ => hq
  clear hq L13
  have H15 := H12.conv (j := 4) (d' := lexF w a (((l.map stS)).take 0) [] T) (by rfl) (by rfl) (fun p => ⟨[], p, .done (by rfl), by decide⟩)
  simp only [List.set_cons_zero, List.set_cons_succ] at H15
  clear H12
  refine r_for (by intro _; rfl) ?_
  repeat' walk1
  obtain ⟨v16, l16, p16⟩ := H15.strs (j := 3) (by rfl)
  refine r_iterL H15 l16.isList ?_; intro it17 h17 tk17 H17
  simp only [List.cons_append, List.nil_append] at H17
  clear l16 p16 v16
  obtain ⟨I1, hI1⟩ : ∃ I : Nat → Heap → Prop, I = (fun m h' => ∃ (i : Nat) (lv : List (Str × Value)), m = l.length - i ∧ i ≤ l.length ∧ lv.lookup ("size" : Str) = some (.int (l.length : Nat) ts) ∧ Led (KK w) h0 h' [objD 75 (tabObj ps)] [nsD L lv, cellD (L + 4) (some (.ref a.x)), cellD (L + 3) (some (.ref dD)), strsD dD (l.map stS), lexF w a ((l.map stS).take i) [] T, liD it17 dD i]) := ⟨_, rfl⟩
  refine ⟨I1, l.length, _, _, rfl, I_mk hI1 ⟨0, _, rfl, by (first | lia | omega), by exact e1, H17⟩, by intro _; rfl, ?_⟩
  clear H15 H17 e1 e2
  intro E2 n18 h18 tk18 hJ18
  obtain ⟨i, lv2, hn, hi, e1, H18⟩ := I_out hI1 hJ18
  clear hJ18
  obtain ⟨v19, l19, p19⟩ := H18.strs (j := 3) (by rfl)
  have hv19 := p19.length
  rw [List.length_map] at hv19
  by_cases hil : i < l.length
  · obtain ⟨y, hy⟩ : ∃ y, (l.map stS)[i]? = some y := ⟨_, List.getElem?_eq_getElem (by rw [List.length_map]; (first | lia | omega))⟩
    obtain ⟨vv, hvv, tvv, rfl⟩ := Paired.get p19 hy
    have hst : (l.map stS).take (i + 1) = (l.map stS).take i ++ [y] := by rw [List.take_add_one, hy]; rfl
    refine r_nextL (j := 5) H18 (by rfl) l19.isList (by simpa using hvv) ?_; intro h20 tk20 H20
    simp only [List.set_cons_zero, List.set_cons_succ] at H20
    clear H18 l19 p19
    repeat' walk1
    rename Led _ _ _ _ _ => H21
    clear H20
    obtain ⟨rest21, L21⟩ := H21.lexPN (j := 4) (by rfl)
    refine r_lmethod (f := 56) H21.gd L21 (by rfl) (by rfl) (by intros; rfl) ?_
    refine callWith_K (K := KK w) H21.gd.frag (by rfl) ?_
    walk1
    walk1
    walk1
    refine ⟨H21.gd.frag, ?_⟩
    refine wpAny_call (pw_call (H21.calleeN (j := 4) (by rfl)) (by (first | lia | omega)) (by (first | lia | omega)) (by rw [List.length_take, List.length_map]; (first | lia | omega)) ?_); intro h22 tk22 H22
    have H23 := H21.backN (j := 4) (by rfl) (by rfl) H22
    simp only [List.set_cons_zero, List.set_cons_succ] at H23
    rw [← hst] at H23
    clear H21 H22 L21
    dsimp only
    repeat' walk1
    exact Nx.mk (m := l.length - (i + 1)) (by (first | lia | omega)) (I_mk hI1 ⟨i + 1, _, rfl, by (first | lia | omega), by exact e1, H23⟩)
  · have hie : i = l.length := by (first | lia | omega)
    refine r_nextL_end (j := 5) H18 hA (by rfl) l19.isList (by simp; (first | lia | omega)) ?_; intro h20 tk20 H20
    simp only [List.eraseIdx_cons_succ, List.eraseIdx_cons_zero] at H20
    rw [hie, List.take_of_length_le (by rw [List.length_map]; (first | lia | omega))] at H20
    clear H18 l19 p19
    walk1
    exact la_B hoC hbC H20 e1 hP hT hd hu hA k
end Mine
end

section
open PySem PySem.W PySem.Calls PyProof.Rows
namespace Mine

theorem itr_dummy : True := trivial
set_option maxRecDepth 100000 in
set_option maxHeartbeats 8000000 in
theorem la_call {w : World} {A : Around} {h : Heap} {gs : Array GenState} {dr : Drawn} {tk : Nat} {os : OsState} {R : Result → Shared → Prop} {l : Addr} {vs : List Value} {ns : List Int}
    (H : Led (KK w) h h [objD 75 (tabObj #[])] []) (hbm : ∃ mg, h.Ns mainGlobals mg ∧ h.BuiltinsAt mg 75) (hl : h.IsList l vs.toArray) (hi : IntsAre vs ns) (hsz : vs.length ≤ 63) (hd : A.depth < 400) (hu : A.units < 400) (hA : A.handled = none) (hP : ∀ hs, ∃ b, P3 (drC hs) b)
    (k : ∀ h' tk' ps, Led (KK w) h h' [objD 75 (tabObj ps)] [] → R (.ok (.ret (.bool true))) ⟨h', gs, dr, tk', os⟩) :
    codeAny (model PG w) A (.call (.ref 114) ⟨[.ref l], []⟩) R ⟨h, gs, dr, tk, os⟩ := by
  refine r_enterN (binds := [("script", .ref l)]) (lv := [(("script" : Str), .ref l)]) (D := fun L => [cellD (L + 4) none, cellD (L + 3) none, cellD (L + 2) none, cellD (L + 1) none]) (ns := ["lexer", "drawn", "words", "heaps"]) H (Nat.lt_of_lt_of_le hd (by decide)) rfl rfl rfl rfl rfl (by intro _; rfl) (by decide) (by intro _; rfl) (all_mix (by intro _; rfl)) (by intro _; exact bindL_mix (by rfl)) rfl rfl rfl ?_
  intro E' L h₁ tk₁ H1
  have hl75 : l ≠ 75 := by
    rintro rfl
    obtain ⟨o, ho, hc, _⟩ := hl
    have h75 : h.get? 75 = some (tabObj #[]) := H.atO (j := 0) (d := objD 75 (tabObj #[])) rfl
    rw [h75] at ho; cases ho; cases hc
  have hlF : ∀ {h' : Heap} {o : Obj} {N : List HD}, Led (KK w) h h' [objD 75 o] N → h'.IsList l vs.toArray := fun H' => hl.at fun o e => H'.keep _ o e (by simpa [objD] using hl75)
  have hbF : ∀ {h' : Heap} {o : Obj} {N : List HD}, Led (KK w) h h' [objD 75 o] N → ∃ mg, h'.Ns mainGlobals mg ∧ h'.BuiltinsAt mg 75 := by
    intro h' o N H'
    obtain ⟨mg, hg, bm, ob, b1, b2, b3, b4, b5, b6⟩ := hbm
    exact ⟨mg, hg.at (fun o ho => H'.keep _ o ho (by simp [objD]; decide)), bm, ob, b1, b2, b3, b4, H'.keep _ _ b5 (by simpa [objD] using b4), b6⟩
  repeat' walk1
  refine callWith_K (K := KK w) H1.gd.frag (by rfl) ?_
  walk1
  walk1
  walk1
  refine ⟨H1.gd.frag, ?_⟩
  refine wpAny_call (hp_call H1.gd (hlF H1) hi hsz (by rw [deeper_depth']; (first | lia | omega)) (by rw [deeper_units']; (first | lia | omega)) hA ?_); intro hD hs h2 tk2 hs10 H2
  have H3 := H1.backNw H2
  simp only [List.cons_append, List.nil_append] at H3
  clear H1 H2
  dsimp only
  repeat' walk1
  rename_i h3 _ t1 _ t2 _ t3 _ t4 _ aw h4 tk4 H4 h5 H5 _ _ _ _
  clear H3 H4
  have H6 := H5.conv (j := 6) (d' := strsD aw (([[34], [92, 10], [97], [98, 32, 99]] : LL).map stS)) (by rfl) (by rfl) (fun p => ⟨_, p, .cons ⟨t1, rfl⟩ (.cons ⟨t2, rfl⟩ (.cons ⟨t3, rfl⟩ (.cons ⟨t4, rfl⟩ .nil)))⟩)
  simp only [List.set_cons_zero, List.set_cons_succ] at H6
  clear H5
  obtain ⟨vh, lh, ph⟩ := H6.pints (j := 5) (by rfl)
  refine r_itemZ lh.isList ph (by decide) (by decide) (by exact zs_get (k := 9) (by (first | lia | omega))) ?_ (by with_unfolding_all rfl); intro t7
  repeat' walk1
  rename_i t8 tk8 h9 tk9 H9
  rw [show (5 : Int) + ((hs.getD 9 0 : Nat) : Int) % 4 = ((szC hs : Nat) : Int) by unfold szC; (first | lia | omega)] at H9
  clear H6 lh ph
  have hs8 := szC_le hs
  refine comp_map (β := List Nat) (K := KK w) (g := h) (szC hs) (fun v z => SV v (stS z)) (drw hs) (fun _ => [objD 75 (tabObj #[])])
    [nsD L [(("size" : Str), .int (szC hs : Nat) t8), (("script" : Str), .ref l)], cellD (L + 4) none, cellD (L + 3) none, cellD (L + 2) (some (.ref aw)), cellD (L + 1) (some (.ref hD)), pintsD hD (zs hs), strsD aw (([[34], [92, 10], [97], [98, 32, 99]] : LL).map stS)]
    (by (first | lia | omega)) (by intro _; rfl) (by rfl) (by rfl) (by rfl) (by rfl) (by rfl) ?_
  repeat' walk1
  refine r_range1 H9 ?_; intro r10 h10 tk10 H10
  refine r_itR (n := szC hs) (N := [_, _, _, _, _, _, _]) H10 (small_one (by (first | lia | omega)) (by (first | lia | omega)) (by (first | lia | omega)) (by (first | lia | omega))) (by rw [rangeSize_one]; split <;> (first | lia | omega)) ?_; intro it11 h11 tk11 H11
  refine ⟨it11, _, _, _, h11, tk11, rfl, rfl, itr_range hA, H11, fun _ _ _ _ _ => trivial, ?_, ?_⟩
  · clear H9 H10 H11
    intro E2 C D i lv acc v h12 tk12 NN2 hNN2 hi hv e1 hacc H12
    obtain ⟨t12, rfl⟩ := hv
    try simp only [List.cons_append, List.nil_append] at H12
    repeat' walk1
    obtain ⟨vh, lh, ph⟩ := H12.pints (j := 6) (by rfl)
    obtain ⟨vw, lw, pw⟩ := H12.strs (j := 7) (by rfl)
    refine r_itemZ lh.isList ph (by (first | lia | omega)) (by (first | lia | omega)) (by rw [show (0 + (i : Int) * 1).toNat = i by (first | lia | omega)]; exact zs_get (by (first | lia | omega))) ?_ (by with_unfolding_all rfl); intro t13
    walk1
    refine r_mod (by decide) ?_; intro t14 tk14
    refine r_itemS lw.isList pw (by (first | lia | omega)) (by (first | lia | omega)) (x := stS (drw hs i)) (by rw [show (((hs.getD i 0 : Nat) : Int) % 4).toNat = hs.getD i 0 % 4 by (first | lia | omega), List.getElem?_map, w3_get]; rfl) ?_ (by with_unfolding_all rfl); intro t15
    exact TP.mk hNN2 ⟨_, rfl⟩ H12
  clear H9 H10 H11
  intro C12 dD lv12 acc12 h12 tk12 hp12 H12
  refine uend_none (N := [_, _, _, _, _, _, _]) H12 fun h13 H13 => ?_
  simp only [List.cons_append, List.nil_append] at H13
  have H14 := H13.conv (j := 7) (d' := strsD dD ((drC hs).map stS)) (by rfl) (by rfl) (fun p => ⟨_, p, paired_map hp12⟩)
  simp only [List.set_cons_zero, List.set_cons_succ] at H14
  clear H12 H13 hp12
  repeat' walk1
  rename Led _ _ _ _ _ => H15
  clear H14
  have hdl := drC_len hs
  refine comp_map (β := List Nat) (K := KK w) (g := h) (szC hs) (fun v z => SV v (stS z)) (fun p => spell (drw hs p) (hs.getD (p + 2) 0 + p)) (fun _ => [objD 75 (tabObj #[])])
    [nsD L [(("size" : Str), .int (szC hs : Nat) t8), (("script" : Str), .ref l)], cellD (L + 4) none, cellD (L + 3) (some (.ref dD)), cellD (L + 2) (some (.ref aw)), cellD (L + 1) (some (.ref hD)), pintsD hD (zs hs), strsD aw (([[34], [92, 10], [97], [98, 32, 99]] : LL).map stS), strsD dD ((drC hs).map stS)]
    (by (first | lia | omega)) (by intro _; rfl) (by rfl) (by rfl) (by rfl) (by rfl) (by rfl) ?_
  repeat' walk1
  refine r_range1 H15 ?_; intro r16 h16 tk16 H16
  refine r_itR (n := szC hs) (N := [_, _, _, _, _, _, _, _]) H16 (small_one (by (first | lia | omega)) (by (first | lia | omega)) (by (first | lia | omega)) (by (first | lia | omega))) (by rw [rangeSize_one]; split <;> (first | lia | omega)) ?_; intro it17 h17 tk17 H17
  refine ⟨it17, _, _, _, h17, tk17, rfl, rfl, itr_range hA, H17, fun _ _ _ _ _ => trivial, ?_, ?_⟩
  · clear H15 H16 H17
    intro E2 C D i lv acc v h18 tk18 NN2 hNN2 hi hv e1 hacc H18
    obtain ⟨t18, rfl⟩ := hv
    try simp only [List.cons_append, List.nil_append] at H18
    repeat' walk1
    refine callWith_K (K := KK w) H18.gd.frag (by rfl) ?_
    repeat' walk1
    obtain ⟨vd, ld, pd⟩ := H18.strs (j := 8) (by rfl)
    refine r_itemS ld.isList pd (by (first | lia | omega)) (by (first | lia | omega)) (x := stS (drw hs i)) (by rw [show (0 + (i : Int) * 1).toNat = i by (first | lia | omega)]; unfold drC; rw [List.getElem?_map, List.getElem?_map, List.getElem?_range (by (first | lia | omega))]; rfl) ?_ (by with_unfolding_all rfl); intro t19
    repeat' walk1
    obtain ⟨vh, lh, ph⟩ := H18.pints (j := 6) (by rfl)
    refine r_itemZ lh.isList ph (by (first | lia | omega)) (by (first | lia | omega)) (by rw [show (0 + (i : Int) * 1 + 2).toNat = i + 2 by (first | lia | omega)]; exact zs_get (by (first | lia | omega))) ?_ (by with_unfolding_all rfl); intro t20
    walk1
    refine r_add ?_; intro t21 tk21
    rw [show ((hs.getD (i + 2) 0 : Nat) : Int) + (0 + (i : Int) * 1) = ((hs.getD (i + 2) 0 + i : Nat) : Int) by (first | lia | omega)]
    walk1
    refine ⟨H18.gd.frag, ?_⟩
    have hw4 := w4m_len (wd := drw hs i) ⟨_, rfl⟩
    refine wpAny_call (sp_call H18.gd hw4.2.1 (by have := hw4.1; (first | lia | omega)) (by rw [deeper_depth']; (first | lia | omega)) hA ?_); intro t22 h22 tk22 H22
    exact TP.mk hNN2 ⟨_, rfl⟩ (H18.back0 H22)
  clear H15 H16 H17
  intro C18 D18 lv18 acc18 h18 tk18 hp18 H18
  refine uend_none (N := [_, _, _, _, _, _, _, _]) H18 fun h19 H19 => ?_
  simp only [List.cons_append, List.nil_append] at H19
  clear H18
  repeat' walk1
  have l19 : h19.PlainList D18 acc18.toArray := H19.at (j := 8) (d := plainD D18 acc18) rfl
  refine r_join l19.isList hp18 (by
    intro z hz
    obtain ⟨i, hi5, rfl⟩ := List.mem_map.mp hz
    have := spell_len (drw hs i) (hs.getD (i + 2) 0 + i)
    have := (w4m_len (wd := drw hs i) ⟨_, rfl⟩).1
    (first | lia | omega)) (by simp; (first | lia | omega)) ?_; intro t20 tk20
  have H20 := H19.sub (N' := [nsD L [(("size" : Str), .int (szC hs : Nat) t8), (("script" : Str), .ref l)], cellD (L + 4) none, cellD (L + 3) (some (.ref dD)), strsD dD ((drC hs).map stS)]) (.cons_cons _ (.cons_cons _ (.cons_cons _ (.cons _ (.cons _ (.cons _ (.cons _ (.cons_cons _ (.cons _ .slnil)))))))))
  clear H19 l19 hp18
  change wpAny _ _ (storeName _ _ (Value.str (stS (txt3 hs)) t20)) _ _ _
  repeat' walk1
  rename Led _ _ _ _ _ => H21
  clear H20
  refine callWith_K (K := KK w) H21.gd.frag (by rfl) ?_
  walk1
  walk1
  walk1
  refine ⟨H21.gd.frag, ?_⟩
  refine wpAny_call (lx_call (H21.calleeO (j := 0) rfl) (hbF H21) (by rw [deeper_depth']; (first | lia | omega)) (by rw [deeper_units']; (first | lia | omega)) hA (txt3_len hs) ?_); intro a ps h22 tk22 H22
  have H23 := H21.backOO (j := 0) rfl (by rfl) H22
  simp only [List.set_cons_zero, List.cons_append, List.nil_append] at H23
  clear H21 H22
  dsimp only
  have hnl := nls_le (txt3 hs)
  have htl := txt3_len hs
  generalize hTT : 1 + nls (txt3 hs) = TT at H23
  have hT : 0 ≤ TT ∧ TT < 100000 := by (first | lia | omega)
  have H24 := H23.conv (j := 4) (d' := lexF w a [] (drC hs) TT) (by rfl) (by rfl) (fun p => ⟨txt3 hs, p, toks_txt3 hs, htl⟩)
  simp only [List.set_cons_zero, List.set_cons_succ] at H24
  clear H23
  walk1
  rename Led _ _ _ _ _ => H25
  clear H24
  obtain ⟨b, hPb⟩ := hP hs
  rw [← hdl] at H25
  exact la_T rfl rfl H25 (by rfl) (by rfl) hTT hPb hT (by rw [deeper_depth']; (first | lia | omega)) (by rw [deeper_units']; (first | lia | omega)) hA (fun h' tk' H' => k h' tk' ps H')
end Mine
end

section
open PySem PySem.W PySem.Calls PyProof.Rows
namespace Mine
/-! the root of a ring, by a function -/
theorem per_mul {α : Type} {x : Nat → α} {t : Nat} (h : ∀ k, x (k + t) = x k) : ∀ m k, x (k + m * t) = x k
  | 0, k => by rw [Nat.zero_mul]; rfl
  | m + 1, k => by rw [Nat.succ_mul, ← Nat.add_assoc, h, per_mul h m]
theorem per_mod {α : Type} {x : Nat → α} {t : Nat} (h : ∀ k, x (k + t) = x k) (k : Nat) : x k = x (k % t) := by
  conv => lhs; rw [← Nat.mod_add_div k t, Nat.mul_comm]
  exact per_mul h _ _
theorem lin_mod {α : Type} {x : Nat → α} {n q : Nat} (hq : 0 < q) (h : ∀ k, k + q < n → x k = x (k + q)) : ∀ k, k < n → x k = x (k % q) := by
  intro k
  induction k using Nat.strongRecOn with
  | _ k ih =>
    intro hk
    by_cases hkq : k < q
    · rw [Nat.mod_eq_of_lt hkq]
    · have h1 := h (k - q) (by (first | lia | omega))
      rw [show k - q + q = k by (first | lia | omega)] at h1
      rw [← h1, ih (k - q) (by (first | lia | omega)) (by (first | lia | omega)), Nat.mod_eq_sub_mod (by (first | lia | omega) : k ≥ q)]
theorem root_fun {α : Type} {x : Nat → α} {n q : Nat} (hn : 0 < n) (hper : ∀ k, x (k + n) = x k) (hq : 0 < q ∧ q ≤ n) (hqp : ∀ k, k + q < n → x k = x (k + q))
    (hqm : ∀ p, 0 < p → p ≤ n → (∀ k, k + p < n → x k = x (k + p)) → q ≤ p) {R : Nat} (hR : R = if n % q = 0 then q else n) :
    (0 < R ∧ R ≤ n) ∧ (∀ k, x (k + R) = x k) ∧ ∀ t, 0 < t → (∀ k, x (k + t) = x k) → R ≤ t := by
  have hle : ∀ t, 0 < t → (∀ k, x (k + t) = x k) → q ≤ t := by
    intro t ht h
    by_cases htn : t ≤ n
    · exact hqm t ht htn fun k _ => (h k).symm
    · (first | lia | omega)
  by_cases hd : n % q = 0
  · rw [if_pos hd] at hR
    subst hR
    refine ⟨hq, fun k => ?_, hle⟩
    have hm : ∀ j, x j = x (j % R) := fun j => by
      rw [per_mod hper j, lin_mod hq.1 hqp (j % n) (Nat.mod_lt _ hn), Nat.mod_mod_of_dvd _ (Nat.dvd_of_mod_eq_zero hd)]
    rw [hm (k + R), hm k, Nat.add_mod_right]
  · rw [if_neg hd] at hR
    subst hR
    refine ⟨⟨hn, Nat.le_refl _⟩, hper, fun t ht h => ?_⟩
    -- the gcd of t and R is a period too
    by_cases htn : R ≤ t
    · exact htn
    · exfalso
      -- a least period
      have hex : ∃ g, 0 < g ∧ g < R ∧ (∀ k, x (k + g) = x k) ∧ R % g = 0 := by
        clear hq hqp hqm hle hd
        induction t using Nat.strongRecOn with
        | _ t ih =>
          by_cases hr : R % t = 0
          · exact ⟨t, ht, by (first | lia | omega), h, hr⟩
          · have hlt := Nat.mod_lt R ht
            refine ih (R % t) hlt (by (first | lia | omega)) (fun k => ?_) (by (first | lia | omega))
            have e : k + R = k + R % t + R / t * t := by
              have := Nat.mod_add_div R t
              rw [Nat.mul_comm] at this
              (first | lia | omega)
            have h1 := hper k
            rw [e, per_mul h] at h1
            exact h1
      obtain ⟨g, hg, hgR, hgp, hgd⟩ := hex
      have hqg := hle g hg hgp
      have h2g : 2 * g ≤ R := by
        obtain ⟨m, hm⟩ := Nat.dvd_of_mod_eq_zero hgd
        have hm2 : 2 ≤ m := by
          rcases Nat.lt_or_ge m 2 with h1 | h1
          · have : m = 0 ∨ m = 1 := by (first | lia | omega)
            rcases this with rfl | rfl <;> (first | lia | omega)
          · exact h1
        have := Nat.mul_le_mul_left g hm2
        (first | lia | omega)
      have hqS : ∀ k, x (k + q) = x k := fun k => by
        have e1 : x k = x (k % g) := per_mod hgp k
        have e2 : x (k + q) = x (k % g + q) := by
          rw [per_mod hgp (k + q), per_mod hgp (k % g + q), Nat.mod_add_mod]
        have hlt := Nat.mod_lt k hg
        rw [e1, e2, ← hqp (k % g) (by (first | lia | omega))]
      -- then q divides R
      have hqd : R % q = 0 := by
        by_cases hr : R % q = 0
        · exact hr
        · exfalso
          have hlt := Nat.mod_lt R hq.1
          have := hle (R % q) (by (first | lia | omega)) (fun k => by
            have e : k + R = k + R % q + R / q * q := by
              have := Nat.mod_add_div R q
              rw [Nat.mul_comm] at this
              (first | lia | omega)
            have h1 := hper k
            rw [e, per_mul hqS] at h1
            exact h1)
          (first | lia | omega)
      exact hd hqd
theorem rot_get {α : Type} {xs : List α} {i k : Nat} (hi : i < xs.length) (hk : k < xs.length) : (xs.drop i ++ xs.take i)[k]? = xs[(k + i) % xs.length]? := by
  by_cases h : k < xs.length - i
  · rw [List.getElem?_append_left (by rw [List.length_drop]; exact h), List.getElem?_drop, Nat.mod_eq_of_lt (by (first | lia | omega)), Nat.add_comm]
  · rw [List.getElem?_append_right (by rw [List.length_drop]; (first | lia | omega)), List.length_drop, List.getElem?_take_of_lt (by (first | lia | omega))]
    rw [Nat.mod_eq_sub_mod (by (first | lia | omega)), Nat.mod_eq_of_lt (by (first | lia | omega)), show k + i - xs.length = k - (xs.length - i) by (first | lia | omega)]
theorem first_fm {β : Type} {f : Nat → Option β} {n c : Nat} {v : β} (hc : c < n) (h1 : ∀ k, k < c → f k = none) (h2 : f c = some v) : ((List.range n).filterMap f)[0]? = some v := by
  have e : (List.range c).filterMap f = [] := by
    rw [List.filterMap_eq_nil_iff]
    intro k hk
    exact h1 k (List.mem_range.mp hk)
  have hs : List.range n = List.range c ++ (List.range (n - c)).map (c + ·) := by
    rw [← List.range_add, show c + (n - c) = n by (first | lia | omega)]
  obtain ⟨d, hd⟩ : ∃ d, n - c = d + 1 := ⟨n - c - 1, by (first | lia | omega)⟩
  rw [hs, List.filterMap_append, e, List.nil_append, hd, List.range_succ_eq_map, List.map_cons, List.filterMap_cons, Nat.add_zero, h2]
  rfl
theorem rootF_least {xs : List Str} (hn : 0 < xs.length) :
    (0 < rootF xs ∧ rootF xs ≤ xs.length) ∧ (∀ k, xs[(k + rootF xs) % xs.length]? = xs[k % xs.length]?) ∧ ∀ t, 0 < t → (∀ k, xs[(k + t) % xs.length]? = xs[k % xs.length]?) → rootF xs ≤ t := by
  have hlb := ovT_lb xs (m := xs.length - 1) (by (first | lia | omega))
  rw [show xs.length - 1 + 1 = xs.length by (first | lia | omega)] at hlb
  have hst := stp_pos hn
  refine root_fun (x := fun k => xs[k % xs.length]?) (q := stp xs) hn (fun k => by rw [Nat.add_mod_right]) hst (fun k hk => ?_) (fun p hp hpn h => ?_) rfl
  · have := hlb.1.2 k (by unfold stp at hk; (first | lia | omega))
    rw [Nat.mod_eq_of_lt (by (first | lia | omega)), Nat.mod_eq_of_lt (by (first | lia | omega)), this]
    congr 1
    unfold stp
    (first | lia | omega)
  · by_cases hpe : p = xs.length
    · (first | lia | omega)
    · have := hlb.2 (xs.length - p) ⟨by (first | lia | omega), fun k hk => by
        have := h k (by (first | lia | omega))
        rw [Nat.mod_eq_of_lt (by (first | lia | omega)), Nat.mod_eq_of_lt (by (first | lia | omega))] at this
        rw [this, show xs.length - (xs.length - p) + k = k + p by (first | lia | omega)]⟩
      unfold stp; (first | lia | omega)
theorem root_rot {xs : List Str} {i : Nat} (hi : i < xs.length) : rootF (xs.drop i ++ xs.take i) = rootF xs := by
  have hn : 0 < xs.length := by (first | lia | omega)
  have hl : (xs.drop i ++ xs.take i).length = xs.length := by rw [List.length_append, List.length_drop, List.length_take]; (first | lia | omega)
  obtain ⟨a1, a2, a3⟩ := rootF_least hn
  obtain ⟨b1, b2, b3⟩ := rootF_least (xs := xs.drop i ++ xs.take i) (by rw [hl]; exact hn)
  rw [hl] at b1 b2 b3
  have conv : ∀ t, (∀ k, (xs.drop i ++ xs.take i)[(k + t) % xs.length]? = (xs.drop i ++ xs.take i)[k % xs.length]?) ↔ ∀ k, xs[(k + t) % xs.length]? = xs[k % xs.length]? := by
    intro t
    have e : ∀ k, (xs.drop i ++ xs.take i)[k % xs.length]? = xs[(k + i) % xs.length]? := fun k => by
      rw [rot_get hi (Nat.mod_lt _ hn), Nat.mod_add_mod]
    constructor
    · intro h k
      have := h (k + (xs.length - i))
      rw [e, e, show k + (xs.length - i) + t + i = k + t + xs.length by (first | lia | omega), show k + (xs.length - i) + i = k + xs.length by (first | lia | omega), Nat.add_mod_right, Nat.add_mod_right] at this
      exact this
    · intro h k
      rw [e, e, show k + t + i = k + i + t by (first | lia | omega)]
      exact h (k + i)
  exact Nat.le_antisymm (b3 _ a1.1 ((conv _).mpr a2)) (a3 _ b1.1 ((conv _).mp b2))
theorem back_is {l : LL} (hn : 0 < l.length) : ((List.range l.length).filterMap (bkF l))[0]? = some (rootF (l.map stS)) := by
  have hl : (l.map stS).length = l.length := List.length_map _
  obtain ⟨a1, a2, a3⟩ := rootF_least (xs := l.map stS) (by rw [hl]; exact hn)
  rw [hl] at a1 a2 a3
  have key : ∀ i, i < l.length → ((l.map stS).drop (i + 1) ++ (l.map stS).take (i + 1) = l.map stS ↔ ∀ k, (l.map stS)[(k + (i + 1)) % l.length]? = (l.map stS)[k % l.length]?) := by
    intro i hi
    by_cases hie : i + 1 = l.length
    · rw [hie]
      constructor
      · intro _ k; rw [Nat.add_mod_right]
      · intro _
        rw [List.drop_of_length_le (by (first | lia | omega)), List.take_of_length_le (by (first | lia | omega)), List.nil_append]
    · have hg : ∀ k, k < l.length → ((l.map stS).drop (i + 1) ++ (l.map stS).take (i + 1))[k]? = (l.map stS)[(k + (i + 1)) % l.length]? := fun k hk => by
        rw [rot_get (by (first | lia | omega)) (by (first | lia | omega)), hl]
      constructor
      · intro h k
        have := hg (k % l.length) (Nat.mod_lt _ hn)
        rw [h, Nat.mod_add_mod] at this
        exact this.symm
      · intro h
        apply List.ext_getElem?
        intro k
        by_cases hk : k < l.length
        · rw [hg k hk, h, Nat.mod_eq_of_lt hk]
        · rw [List.getElem?_eq_none (by rw [List.length_append, List.length_drop, List.length_take]; (first | lia | omega)), List.getElem?_eq_none (by (first | lia | omega))]
  refine first_fm (c := rootF (l.map stS) - 1) (by (first | lia | omega)) (fun k hk => ?_) ?_
  · unfold bkF
    rw [if_neg]
    intro h
    have := a3 (k + 1) (by (first | lia | omega)) ((key k (by (first | lia | omega))).mp h)
    (first | lia | omega)
  · unfold bkF
    rw [show rootF (l.map stS) - 1 + 1 = rootF (l.map stS) by (first | lia | omega), if_pos]
    have := (key (rootF (l.map stS) - 1) (by (first | lia | omega))).mpr (by rw [show rootF (l.map stS) - 1 + 1 = rootF (l.map stS) by (first | lia | omega)]; exact a2)
    rwa [show rootF (l.map stS) - 1 + 1 = rootF (l.map stS) by (first | lia | omega)] at this
end Mine
end

section
open PySem PySem.W PySem.Calls PyProof.Rows
namespace Mine
/-! Duval's cut, by the first codes of the words -/
def Lyn (c : Nat → Nat) (n : Nat) : Prop := ∀ i, 0 < i → i < n → ∃ m, i + m < n ∧ (∀ k, k < m → c k = c (i + k)) ∧ c m < c (i + m)
def PN (c : Nat → Nat) (j p : Nat) : Prop := (0 < p ∧ p ≤ j) ∧ Lyn c p ∧ ∀ k, k + p < j → c k = c (k + p)
theorem pn_one (c : Nat → Nat) : PN c 1 1 := ⟨⟨by (first | lia | omega), by (first | lia | omega)⟩, fun i h1 h2 => absurd h2 (by (first | lia | omega)), fun k hk => absurd hk (by (first | lia | omega))⟩
theorem pn_eq {c : Nat → Nat} {j p : Nat} (h : PN c j p) (e : c (j - p) = c j) : PN c (j + 1) p := by
  obtain ⟨h1, h2, h3⟩ := h
  refine ⟨⟨h1.1, by (first | lia | omega)⟩, h2, fun k hk => ?_⟩
  by_cases hkj : k + p < j
  · exact h3 k hkj
  · have hkp : k + p = j := by (first | lia | omega)
    rw [hkp, ← e, ← hkp, Nat.add_sub_cancel]
theorem pn_gt {c : Nat → Nat} {j p : Nat} (h : PN c j p) (e : c (j - p) < c j) : PN c (j + 1) (j + 1) := by
  obtain ⟨h1, h2, h3⟩ := h
  refine ⟨⟨by (first | lia | omega), Nat.le_refl _⟩, ?_, fun k hk => absurd hk (by (first | lia | omega))⟩
  intro i
  induction i using Nat.strongRecOn with
  | _ i ih =>
    intro hi hij
    rcases Nat.lt_trichotomy i p with hip | hip | hip
    · obtain ⟨m, m1, m2, m3⟩ := h2 i hi hip
      exact ⟨m, by (first | lia | omega), m2, m3⟩
    · subst hip
      refine ⟨j - i, by (first | lia | omega), fun k hk => ?_, ?_⟩
      · rw [h3 k (by (first | lia | omega)), Nat.add_comm]
      · rw [show i + (j - i) = j by (first | lia | omega)]; exact e
    · obtain ⟨m, m1, m2, m3⟩ := ih (i - p) (by (first | lia | omega)) (by (first | lia | omega)) (by (first | lia | omega))
      by_cases hm : i + m < j
      · refine ⟨m, by (first | lia | omega), fun k hk => ?_, ?_⟩
        · rw [m2 k hk, h3 (i - p + k) (by (first | lia | omega)), show i - p + k + p = i + k by (first | lia | omega)]
        · rw [h3 (i - p + m) (by (first | lia | omega)), show i - p + m + p = i + m by (first | lia | omega)] at m3
          exact m3
      · refine ⟨j - i, by (first | lia | omega), fun k hk => ?_, ?_⟩
        · rw [m2 k (by (first | lia | omega)), h3 (i - p + k) (by (first | lia | omega)), show i - p + k + p = i + k by (first | lia | omega)]
        · rw [show i + (j - i) = j by (first | lia | omega)]
          by_cases hmj : j - i < m
          · rw [m2 (j - i) hmj, show i - p + (j - i) = j - p by (first | lia | omega)]; exact e
          · have hme : m = j - i := by (first | lia | omega)
            subst hme
            rw [show i - p + (j - i) = j - p by (first | lia | omega)] at m3
            exact Nat.lt_trans m3 e
theorem pn_per {c : Nat → Nat} {j p : Nat} (h : PN c j p) : ∀ i k, i * p + k < j → c (i * p + k) = c k
  | 0, k, _ => by rw [Nat.zero_mul, Nat.zero_add]
  | i + 1, k, hk => by
    rw [Nat.succ_mul] at hk
    have h1 := h.2.2 (i * p + k) (by (first | lia | omega))
    rw [Nat.succ_mul, show i * p + p + k = i * p + k + p by (first | lia | omega), ← h1]
    exact pn_per h i k (by (first | lia | omega))
def Ws (l : LL) : Prop := ∀ wd ∈ l, ∃ m, wd = W4.getD (m % 4) []
def cF (l : LL) (k : Nat) : Nat := (l.getD k []).getD 0 0
theorem w4_key (m n : Nat) : (W4.getD (m % 4) [] < W4.getD (n % 4) [] ↔ (W4.getD (m % 4) []).getD 0 0 < (W4.getD (n % 4) []).getD 0 0) ∧ (W4.getD (m % 4) [] = W4.getD (n % 4) [] ↔ (W4.getD (m % 4) []).getD 0 0 = (W4.getD (n % 4) []).getD 0 0) := by
  have h : m % 4 < 4 := Nat.mod_lt _ (by decide)
  have h' : n % 4 < 4 := Nat.mod_lt _ (by decide)
  generalize m % 4 = a at *
  generalize n % 4 = b at *
  have key : ∀ a < 4, ∀ b < 4, (W4.getD a [] < W4.getD b [] ↔ (W4.getD a []).getD 0 0 < (W4.getD b []).getD 0 0) ∧ (W4.getD a [] = W4.getD b [] ↔ (W4.getD a []).getD 0 0 = (W4.getD b []).getD 0 0) := by decide
  exact key a h b h'
theorem ws_get {l : LL} (hw : Ws l) {i : Nat} (h : i < l.length) : ∃ m, l.getD i [] = W4.getD (m % 4) [] := by
  refine hw _ ?_
  rw [List.getD_eq_getElem?_getD, List.getElem?_eq_getElem h]
  exact List.getElem_mem h
theorem ws_lt {l : LL} (hw : Ws l) {i j : Nat} (hi : i < l.length) (hj : j < l.length) : l.getD i [] < l.getD j [] ↔ cF l i < cF l j := by
  obtain ⟨m, e1⟩ := ws_get hw hi
  obtain ⟨n, e2⟩ := ws_get hw hj
  unfold cF
  rw [e1, e2]
  exact (w4_key m n).1
theorem stS_inj {a b : List Nat} (h : stS a = stS b) : a = b := by
  have := congrArg (fun s : Str => s.cps.toList) h
  simpa [stS] using this
theorem ws_eq {l : LL} (hw : Ws l) {i j : Nat} (hi : i < l.length) (hj : j < l.length) : (l.map stS)[i]? = (l.map stS)[j]? ↔ cF l i = cF l j := by
  obtain ⟨m, e1⟩ := ws_get hw hi
  obtain ⟨n, e2⟩ := ws_get hw hj
  have g : ∀ k, k < l.length → (l.map stS)[k]? = some (stS (l.getD k [])) := fun k hk => by
    rw [List.getElem?_map, List.getD_eq_getElem?_getD, List.getElem?_eq_getElem hk]; rfl
  rw [g i hi, g j hj]
  unfold cF
  rw [e1, e2, ← (w4_key m n).2]
  constructor
  · intro h; exact stS_inj (Option.some.inj h)
  · intro h; rw [h]
theorem pn_lb {l : LL} (hw : Ws l) {j p : Nat} (h : PN (cF l) j p) (hj : j ≤ l.length) : LB (l.map stS) j (j - p) := by
  obtain ⟨h1, h2, h3⟩ := h
  refine ⟨⟨by (first | lia | omega), fun x hx => ?_⟩, fun b hb => ?_⟩
  · rw [show j - (j - p) + x = x + p by (first | lia | omega)]
    exact (ws_eq hw (by (first | lia | omega)) (by (first | lia | omega))).mpr (h3 x (by (first | lia | omega)))
  · by_cases hbp : b ≤ j - p
    · exact hbp
    · exfalso
      have hbj := hb.1
      obtain ⟨m, m1, _, m3⟩ := h2 (j - b) (by (first | lia | omega)) (by (first | lia | omega))
      have := (ws_eq hw (by (first | lia | omega)) (by (first | lia | omega))).mp (hb.2 m (by (first | lia | omega)))
      (first | lia | omega)
theorem ov_pn {l : LL} (hw : Ws l) {j p : Nat} (h : PN (cF l) j p) (hj : j ≤ l.length) : (ovL l).getD (j - 1) 0 = j - p := by
  have h1 := h.1
  have hlb := ovT_lb (l.map stS) (m := j - 1) (by rw [List.length_map]; (first | lia | omega))
  rw [show j - 1 + 1 = j by (first | lia | omega)] at hlb
  exact lb_eq hlb (pn_lb hw h hj)
theorem far_pn {l : LL} (hw : Ws l) : ∀ f j p, PN (cF l) j p → j ≤ l.length → l.length - j ≤ f → ∃ p', PN (cF l) (farF l f j) p' ∧ farF l f j ≤ l.length ∧ (farF l f j = l.length ∨ cF l (farF l f j) < cF l (farF l f j - p'))
  | 0, j, p, h, hj, hf => ⟨p, by rw [farF]; exact h, by rw [farF]; exact hj, .inl (by rw [farF]; (first | lia | omega))⟩
  | f + 1, j, p, h, hj, hf => by
    have h1 := h.1
    rw [farF, ov_pn hw h hj]
    by_cases hc : j < l.length ∧ ¬ l.getD j [] < l.getD (j - p) []
    · rw [if_pos hc]
      have hlt : ¬ cF l j < cF l (j - p) := fun q => hc.2 ((ws_lt hw hc.1 (by (first | lia | omega) : j - p < l.length)).mpr q)
      rcases Nat.lt_or_ge (cF l (j - p)) (cF l j) with hg | hg
      · exact far_pn hw f (j + 1) (j + 1) (pn_gt h hg) (by (first | lia | omega)) (by (first | lia | omega))
      · exact far_pn hw f (j + 1) p (pn_eq h (by (first | lia | omega))) (by (first | lia | omega)) (by (first | lia | omega))
    · rw [if_neg hc]
      refine ⟨p, h, hj, ?_⟩
      by_cases hjl : j < l.length
      · refine .inr ((ws_lt hw hjl (by (first | lia | omega) : j - p < l.length)).mp ?_)
        exact Classical.byContradiction fun q => hc ⟨hjl, q⟩
      · exact .inl (by (first | lia | omega))
theorem far_spec {l : LL} (hw : Ws l) (hn : 0 < l.length) : PN (cF l) (far l) (stpF l) ∧ far l ≤ l.length ∧ (far l = l.length ∨ cF l (far l) < cF l (far l - stpF l)) := by
  obtain ⟨p, h1, h2, h3⟩ := far_pn hw l.length 1 1 (pn_one _) (by (first | lia | omega)) (by (first | lia | omega))
  have h4 := ov_pn hw h1 h2
  have e : stpF l = p := by
    unfold stpF
    have := h1.1
    show far l - (ovL l).getD (far l - 1) 0 = p
    have h5 : (ovL l).getD (far l - 1) 0 = far l - p := h4
    rw [h5]
    have : p ≤ far l := h1.1.2
    (first | lia | omega)
  rw [e]
  exact ⟨h1, h2, h3⟩
theorem wrt_get {l : LL} {k : Nat} (h : k < l.length) : (wrt l)[k]? = some (cF l k) := by
  have e : l.getD k [] = l[k] := by rw [List.getD_eq_getElem?_getD, List.getElem?_eq_getElem h]; rfl
  unfold wrt cF
  rw [List.getElem?_map, e, List.getElem?_eq_getElem h]; rfl
theorem wrt_len (l : LL) : (wrt l).length = l.length := List.length_map _
theorem wrt_piece {l : LL} (hw : Ws l) (hn : 0 < l.length) {i : Nat} (hi : i < qF l) : wrt ((l.drop (i * stpF l)).take (stpF l)) = (wrt l).take (stpF l) := by
  obtain ⟨h1, h2, _⟩ := far_spec hw hn
  have hq : i * stpF l + stpF l ≤ far l := by
    have h3 := Nat.div_mul_le_self (far l) (stpF l)
    have h4 := Nat.mul_le_mul_right (stpF l) (show i + 1 ≤ far l / stpF l from hi)
    rw [Nat.succ_mul] at h4
    (first | lia | omega)
  apply List.ext_getElem?
  intro k
  by_cases hk : k < stpF l
  · have e : ((l.drop (i * stpF l)).take (stpF l)).getD k [] = l.getD (i * stpF l + k) [] := by
      rw [List.getD_eq_getElem?_getD, List.getD_eq_getElem?_getD, List.getElem?_take_of_lt hk, List.getElem?_drop]
    have hL := wrt_get (l := (l.drop (i * stpF l)).take (stpF l)) (k := k) (by rw [List.length_take, List.length_drop]; (first | lia | omega))
    have hR := wrt_get (l := l) (k := k) (by (first | lia | omega))
    rw [hL, List.getElem?_take_of_lt hk, hR]
    unfold cF
    rw [e]
    exact congrArg some (pn_per h1 i k (by (first | lia | omega)))
  · rw [List.getElem?_eq_none (by rw [wrt_len, List.length_take]; (first | lia | omega)), List.getElem?_eq_none (by rw [List.length_take]; (first | lia | omega))]
theorem lyn_lt {l : LL} {p : Nat} (hp : p ≤ l.length) (h : Lyn (cF l) p) {i : Nat} (hi : 0 < i) (hip : i < p) : (wrt l).take p < ((wrt l).take p).drop i := by
  obtain ⟨m, m1, m2, m3⟩ := h i hi hip
  have hl : ((wrt l).take p).length = p := by rw [List.length_take, wrt_len]; (first | lia | omega)
  have g : ∀ k, k < p → ∀ h, ((wrt l).take p)[k]'h = cF l k := fun k hk h => by
    have := wrt_get (l := l) (k := k) (by (first | lia | omega))
    rw [← List.getElem?_take_of_lt hk, List.getElem?_eq_getElem h] at this
    exact Option.some.inj this
  refine List.lt_iff_exists.mpr (.inr ⟨m, by (first | lia | omega), by rw [List.length_drop, hl]; (first | lia | omega), fun j hj => ?_, ?_⟩)
  · rw [List.getElem_drop, g _ (by (first | lia | omega)), g _ (by (first | lia | omega)), m2 j hj]
  · rw [List.getElem_drop, g _ (by (first | lia | omega)), g _ (by (first | lia | omega))]; exact m3
end Mine
end

section
open PySem PySem.W PySem.Calls PyProof.Rows
namespace Mine
theorem ws_drop {l : LL} (hw : Ws l) (n : Nat) : Ws (l.drop n) := fun wd h => hw wd (List.mem_of_mem_drop h)
theorem laps_flat {α : Type} (l : List α) (p : Nat) : ∀ q, q * p ≤ l.length → ((List.range q).map (fun i => (l.drop (i * p)).take p)).flatten = l.take (q * p)
  | 0, _ => by simp
  | q + 1, h => by
    rw [Nat.succ_mul] at h
    rw [List.range_succ, List.map_append, List.flatten_append, laps_flat l p q (by (first | lia | omega)), Nat.succ_mul, List.take_add]
    simp
theorem pcsF_flat : ∀ f (l : LL), l.length ≤ f → (pcsF f l).flatten = l
  | 0, l, h => by
    have : l = [] := List.length_eq_zero_iff.mp (by (first | lia | omega))
    subst this; rfl
  | f + 1, l, h => by
    rw [pcsF]
    by_cases hl : l = []
    · rw [if_pos hl, hl]; rfl
    · rw [if_neg hl]
      have hn : 0 < l.length := List.length_pos_iff.mpr hl
      have hq := qF_pos hn
      have hs := stpF_pos hn
      have h1 : 1 ≤ qF l * stpF l := Nat.mul_pos hq.1 hs.1
      rw [List.flatten_append, laps_flat l _ _ hq.2, pcsF_flat f _ (by rw [List.length_drop]; (first | lia | omega)), List.take_append_drop]
theorem pcs_flat (l : LL) : (pcs l).flatten = l := pcsF_flat _ l (Nat.le_refl _)
theorem pcsF_len : ∀ f (l : LL), (pcsF f l).length ≤ l.length
  | 0, l => by rw [pcsF]; exact Nat.zero_le _
  | f + 1, l => by
    rw [pcsF]
    by_cases hl : l = []
    · rw [if_pos hl]; exact Nat.zero_le _
    · rw [if_neg hl]
      have hn : 0 < l.length := List.length_pos_iff.mpr hl
      have hq := qF_pos hn
      have hs := stpF_pos hn
      have h1 : qF l * 1 ≤ qF l * stpF l := Nat.mul_le_mul_left _ hs.1
      have h2 := pcsF_len f (l.drop (qF l * stpF l))
      rw [List.length_drop] at h2
      rw [List.length_append, List.length_map, List.length_range]
      (first | lia | omega)
def Lyns (ts : LL) : Prop := ∀ t ∈ ts, ∀ c, 0 < c → c < t.length → t < t.drop c
def Fall (ts : LL) : Prop := ∀ i, 0 < i → i < ts.length → ¬ ts.getD (i - 1) [] < ts.getD i []
theorem lt_self (t : List Nat) : ¬ t < t := List.lt_irrefl t
theorem fall_app {t : List Nat} {q : Nat} {rest : LL} (hr : Fall rest) (hh : ∀ v, rest.head? = some v → ¬ t < v) : Fall (List.replicate q t ++ rest) := by
  intro i hi hil
  rw [List.length_append, List.length_replicate] at hil
  have gl : ∀ k, k < q → (List.replicate q t ++ rest).getD k [] = t := fun k hk => by
    rw [List.getD_eq_getElem?_getD, List.getElem?_append_left (by rw [List.length_replicate]; exact hk), List.getElem?_replicate, if_pos hk]; rfl
  have gr : ∀ k, q ≤ k → (List.replicate q t ++ rest).getD k [] = rest.getD (k - q) [] := fun k hk => by
    rw [List.getD_eq_getElem?_getD, List.getElem?_append_right (by rw [List.length_replicate]; exact hk), List.length_replicate, List.getD_eq_getElem?_getD]
  rcases Nat.lt_trichotomy i q with h | h | h
  · rw [gl _ h, gl _ (by (first | lia | omega))]; exact lt_self t
  · rw [gl _ (by (first | lia | omega)), gr _ (by (first | lia | omega)), h, Nat.sub_self]
    refine hh _ ?_
    have h0 : 0 < rest.length := by (first | lia | omega)
    rw [List.head?_eq_getElem?, List.getD_eq_getElem?_getD, List.getElem?_eq_getElem h0]; rfl
  · rw [gr _ (by (first | lia | omega)), gr _ (by (first | lia | omega)), show i - 1 - q = i - q - 1 by (first | lia | omega)]
    exact hr _ (by (first | lia | omega)) (by (first | lia | omega))
theorem next_nlt {l : LL} (hw : Ws l) (hn : 0 < l.length) {v : List Nat} (hv : v = (wrt (l.drop (qF l * stpF l))).take v.length) : ¬ (wrt l).take (stpF l) < v := by
  obtain ⟨h1, h2, h3⟩ := far_spec hw hn
  have hs := stpF_pos hn
  have hq := qF_pos hn
  have hqd : qF l = far l / stpF l := rfl
  have hf1 := Nat.div_mul_le_self (far l) (stpF l)
  rw [← hqd] at hf1
  have hf2 : far l < qF l * stpF l + stpF l := by
    have := Nat.lt_div_mul_add hs.1 (a := far l)
    rw [← hqd] at this
    exact this
  have hul : ((wrt l).take (stpF l)).length = stpF l := by rw [List.length_take, wrt_len]; (first | lia | omega)
  have gu : ∀ k, k < stpF l → ∀ h, ((wrt l).take (stpF l))[k]'h = cF l k := fun k hk h => by
    have := wrt_get (l := l) (k := k) (by (first | lia | omega))
    rw [← List.getElem?_take_of_lt hk, List.getElem?_eq_getElem h] at this
    exact Option.some.inj this
  have hvl : v.length ≤ l.length - qF l * stpF l := by
    have := congrArg List.length hv
    rw [List.length_take, wrt_len, List.length_drop] at this
    (first | lia | omega)
  have gv : ∀ k (h : k < v.length), v[k] = cF l (qF l * stpF l + k) := fun k h => by
    have e1 := wrt_get (l := l.drop (qF l * stpF l)) (k := k) (by rw [List.length_drop]; (first | lia | omega))
    have e2 : v[k]? = ((wrt (l.drop (qF l * stpF l))).take v.length)[k]? := by rw [← hv]
    rw [List.getElem?_take_of_lt h, e1, List.getElem?_eq_getElem h] at e2
    have e3 : (l.drop (qF l * stpF l)).getD k [] = l.getD (qF l * stpF l + k) [] := by
      rw [List.getD_eq_getElem?_getD, List.getElem?_drop, ← List.getD_eq_getElem?_getD]
    rw [Option.some.inj e2]
    unfold cF
    rw [e3]
  -- the codes up to far go on as the lap
  have hper : ∀ k, qF l * stpF l + k < far l → cF l (qF l * stpF l + k) = cF l k := fun k hk => pn_per h1 _ k hk
  -- the code at far, where there is one, is less
  have hfar : far l < l.length → cF l (far l) < cF l (far l - qF l * stpF l) := fun hfl => by
    rcases h3 with h3 | h3
    · (first | lia | omega)
    · obtain ⟨q', hq'⟩ : ∃ q', qF l = q' + 1 := ⟨qF l - 1, by (first | lia | omega)⟩
      have e : far l - stpF l = q' * stpF l + (far l - qF l * stpF l) := by
        have h5 : qF l * stpF l = q' * stpF l + stpF l := by rw [hq', Nat.succ_mul]
        (first | lia | omega)
      rw [e, pn_per h1 q' _ (by rw [← e]; (first | lia | omega))] at h3
      exact h3
  intro hlt
  rcases List.lt_iff_exists.mp hlt with ⟨he, hle⟩ | ⟨i, i1, i2, i3, i4⟩
  · rw [hul] at he hle
    have hfl : far l < l.length := by (first | lia | omega)
    have := hfar hfl
    have e1 := gu (far l - qF l * stpF l) (by (first | lia | omega)) (by (first | lia | omega))
    have e2 : ((wrt l).take (stpF l))[far l - qF l * stpF l]'(by (first | lia | omega)) = v[far l - qF l * stpF l]'(by (first | lia | omega)) := by
      have h5 : ((wrt l).take (stpF l))[far l - qF l * stpF l]? = (v.take (stpF l))[far l - qF l * stpF l]? := by rw [← he]
      rw [List.getElem?_take_of_lt (l := v) (by (first | lia | omega)), List.getElem?_eq_getElem (by (first | lia | omega)), List.getElem?_eq_getElem (by (first | lia | omega))] at h5
      exact Option.some.inj h5
    rw [e1, gv, show qF l * stpF l + (far l - qF l * stpF l) = far l by (first | lia | omega)] at e2
    (first | lia | omega)
  · rw [hul] at i1
    rw [gu i i1, gv] at i4
    rcases Nat.lt_trichotomy (qF l * stpF l + i) (far l) with h | h | h
    · rw [hper i h] at i4; exact Nat.lt_irrefl _ i4
    · have := hfar (by (first | lia | omega))
      rw [← h, show qF l * stpF l + i - qF l * stpF l = i by (first | lia | omega)] at this
      (first | lia | omega)
    · have hj := i3 (far l - qF l * stpF l) (by (first | lia | omega))
      rw [gu _ (by (first | lia | omega)), gv, show qF l * stpF l + (far l - qF l * stpF l) = far l by (first | lia | omega)] at hj
      have := hfar (by (first | lia | omega))
      (first | lia | omega)
theorem pcsF_good : ∀ f (l : LL), Ws l → l.length ≤ f → Lyns ((pcsF f l).map wrt) ∧ Fall ((pcsF f l).map wrt) ∧ ∀ v, ((pcsF f l).map wrt).head? = some v → v = (wrt l).take v.length
  | 0, l, _, _ => by rw [pcsF]; exact ⟨fun t h => (nomatch h), fun i _ h => (nomatch h), fun v h => (nomatch h)⟩
  | f + 1, l, hw, hf => by
    rw [pcsF]
    by_cases hl : l = []
    · rw [if_pos hl]; exact ⟨fun t h => (nomatch h), fun i _ h => (nomatch h), fun v h => (nomatch h)⟩
    · rw [if_neg hl]
      have hn : 0 < l.length := List.length_pos_iff.mpr hl
      have hq := qF_pos hn
      have hs := stpF_pos hn
      have hp1 : 1 ≤ qF l * stpF l := Nat.mul_pos hq.1 hs.1
      obtain ⟨h1, h2, _⟩ := far_spec hw hn
      have hul : ((wrt l).take (stpF l)).length = stpF l := by rw [List.length_take, wrt_len]; (first | lia | omega)
      have e : ((List.range (qF l)).map fun i => (l.drop (i * stpF l)).take (stpF l)).map wrt = List.replicate (qF l) ((wrt l).take (stpF l)) := by
        rw [List.map_map]
        apply List.eq_replicate_iff.mpr
        refine ⟨by rw [List.length_map, List.length_range], fun b hb => ?_⟩
        obtain ⟨i, hi, rfl⟩ := List.mem_map.mp hb
        exact wrt_piece hw hn (List.mem_range.mp hi)
      obtain ⟨g1, g2, g3⟩ := pcsF_good f (l.drop (qF l * stpF l)) (ws_drop hw _) (by rw [List.length_drop]; (first | lia | omega))
      rw [List.map_append, e]
      refine ⟨fun t ht c hc hct => ?_, fall_app g2 fun v hv => next_nlt hw hn (g3 v hv), fun v hv => ?_⟩
      · rcases List.mem_append.mp ht with ht | ht
        · rw [List.eq_of_mem_replicate ht] at hct ⊢
          rw [hul] at hct
          exact lyn_lt (by (first | lia | omega)) h1.2.1 hc hct
        · exact g1 t ht c hc hct
      · obtain ⟨q', hq'⟩ : ∃ q', qF l = q' + 1 := ⟨qF l - 1, by (first | lia | omega)⟩
        rw [hq', List.replicate_succ, List.cons_append] at hv
        have : (wrt l).take (stpF l) = v := Option.some.inj hv
        rw [← this, hul]
theorem fal_pcs {l : LL} (hw : Ws l) (hl : l.length ≤ 8) : FalP ((pcs l).map wrt) := by
  obtain ⟨g1, g2, _⟩ := pcsF_good l.length l hw (Nat.le_refl _)
  have hlen := pcsF_len l.length l
  have hfl := pcs_flat l
  refine ⟨fun i hi c hc hcl => ?_, g2, ?_, fun t ht => ?_⟩
  · refine g1 _ ?_ c hc hcl
    rw [List.getD_eq_getElem?_getD, List.getElem?_eq_getElem hi]
    exact List.getElem_mem hi
  · rw [List.length_map]
    show (pcsF l.length l).length < 100
    (first | lia | omega)
  · obtain ⟨p, hp, rfl⟩ := List.mem_map.mp ht
    rw [wrt_len]
    obtain ⟨a, b, hab⟩ := List.append_of_mem hp
    rw [hab] at hfl
    have := congrArg List.length hfl
    simp only [List.flatten_append, List.flatten_cons, List.length_append] at this
    (first | lia | omega)
theorem rotL_len {l : LL} {i : Nat} (h : i < l.length) : (rotL i l).length = l.length := by unfold rotL; rw [List.length_append, List.length_drop, List.length_take]; (first | lia | omega)
theorem rotL_ws {l : LL} (hw : Ws l) (i : Nat) : Ws (rotL i l) := fun wd h => by
  unfold rotL at h
  rcases List.mem_append.mp h with h | h
  · exact hw wd (List.mem_of_mem_drop h)
  · exact hw wd (List.mem_of_mem_take h)
theorem plain3 {l : LL} (hw : Ws l) (hl : 5 ≤ l.length ∧ l.length ≤ 8) : P3 l (rootF (l.map stS)) := by
  refine ⟨hl, fun i _ => pcs_flat _, fun i hi => fal_pcs (rotL_ws hw i) (by rw [rotL_len hi]; exact hl.2), fun i hi p hp wd hwd => ?_, fun i hi => ?_, back_is (by (first | lia | omega))⟩
  · have hm : wd ∈ (pcs (rotL i l)).flatten := List.mem_flatten.mpr ⟨p, hp, hwd⟩
    rw [pcs_flat] at hm
    exact (w4m_len (rotL_ws hw i wd hm)).2.2
  · rw [← rotS]
    exact root_rot (by rw [List.length_map]; exact hi)
theorem plain3_all (hs : List Nat) : ∃ b, P3 (drC hs) b := ⟨_, plain3 (drC_w4 hs) (by rw [drC_len]; exact szC_le hs)⟩
end Mine
end

section
open PySem PySem.W PySem.Calls PyProof.Rows
namespace Mine
theorem good_true {c : ClaimW} {cl : Str → Option Addr} {mean : ExcName → Option Value} {args : List WData} {s₁ : Shared} {h' : Heap} {tk' : Nat} {ps : Array Value} {K : Frag} {P : Addr}
    (hg : s₁.gens = #[]) (hP : s₁.heap.get? P = some (tabObj #[])) (hct : isCodeTable s₁.heap P) (H : Led K s₁.heap h' [objD P (tabObj ps)] [])
    (hr : ∀ x, c.raises args x = false) (hp : c.post args (.bool true) args = true) :
    GoodWG c cl mean args s₁ (.ok (.ret (.bool true))) ⟨h', s₁.gens, s₁.drawn, tk', s₁.os⟩ := by
  have h1 : h'.get? P = some (tabObj ps) := H.atO (j := 0) (d := objD P (tabObj ps)) rfl
  have hk : ∀ b o, b ≠ P → s₁.heap.get? b = some o → h'.get? b = some o := fun b o hb e => H.keep b o e (by simpa [objD] using hb)
  refine ⟨.inl ⟨_, .bool true, [], rfl, hr, .bool true, hp, fun _ => ⟨.nil, fun _ ha => nomatch ha⟩⟩, ⟨fun b o e => ?_, fun b o e => ?_⟩, rfl, .of_eq hg⟩
  · by_cases hb : b = P
    · subst hb
      rw [hP] at e; cases e
      exact .inr (.inl ⟨hct, rfl, #[], ps, rfl, by rw [Array.empty_append]; exact h1⟩)
    · exact .inl (hk b o hb e)
  · by_cases hb : b = P
    · subst hb; exact ⟨_, h1⟩
    · exact ⟨o, hk b o hb e⟩
end Mine
open Mine
set_option maxRecDepth 100000 in
set_option maxHeartbeats 8000000 in
theorem PySem.Challenge.cw_qu0003_03_holds : PySem.Challenge.rw_qu0003_03.Holds := by
  refine hd03 ?_
  k_fill
  intro w s₀ s₁ mg mb G Y fa o pm cd doc dV kV ho hd hcd hD hmg hg args vals as hpre hlay hrd hwl hlo
  have KX := km_in_of Y
  km_tabs Y
  refine Ground.open G ?_
  intro T B D TE TW
  wrow_args hpre hlay hrd hwl hlo
  generalize hdd : o.data = dd at hd
  clear hd
  all_goals (first | refine callC_kw (enter_call ?_) | refine enter_call ?_)
  rename_i ns _ _ _ _ _ _ _ l vs _ hl _ _ _ hi _ hlen _
  have h114 : fa = 114 := by
    have e := mg_of (mg := mg) (n := Str.ofString "law") (v := .ref 114) KX T.g (by rfl)
    have hmg' : mg (Str.ofString "law") = some (.ref fa) := hmg
    rw [e] at hmg'
    cases hmg'; rfl
  subst h114
  have GG : Gd (KK w) s₁.heap := ⟨KX, ⟨mg, T.g⟩, ⟨mb, T.b, T.builtins⟩, T.nolimit⟩
  have h75 : s₁.heap.get? 75 = some (tabObj #[]) := hT8 75 (by simp)
  have C75 : CodeHd s₁.heap 79 75 := codeHd_of_K KX (by kernel_rfl)
  obtain ⟨bm, ob, M⟩ := bmod_of_top T
  have ap := M.apart (C75.tab h75)
  have H0 : Led (KK w) s₁.heap s₁.heap [objD 75 (tabObj #[])] [] := Led.startO GG (by intro d hd; cases List.mem_singleton.mp hd; exact h75) (by simp [objD]) (by intro d hd a ha; cases List.mem_singleton.mp hd; cases List.mem_singleton.mp ha; exact ⟨by rfl, by decide, by decide, by decide⟩)
  have hv : vs.length = ns.length := hi.length
  refine la_call H0 ⟨mg, T.g, bm, ob, M.name, M.ne, fun e => ?_, ap.2, M.obj, M.cls, M.dict, M.data⟩ hl hi (by (first | lia | omega)) (by decide) (by decide) rfl Mine.plain3_all ?_
  · subst e
    obtain ⟨o2, es, ep, ho2, hd2, _⟩ := T.g
    have := M.obj
    rw [ho2] at this; cases this
    rw [M.data] at hd2; cases hd2
  · intro h' tk' ps H'
    exact good_true hg h75 (C75.tab h75).isCodeTable H' (fun _ => by kernel_rfl) (by kernel_rfl)
end
