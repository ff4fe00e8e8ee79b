import PyProof.Rows.All
import Wide.All
import OpenK.AllK
import Wide.FinOn
import PySem.Challenge.RW_nb0052_01
set_option Elab.async false

section
open PySem PySem.W PyProof.Rows
set_option maxRecDepth 100000
set_option maxHeartbeats 8000000
namespace Mine
local macro_rules | `(tactic| o_head ($f $k $a $p)) => `(tactic| o_head (kmHook $k $a $p [56, 63]))
open_top hd for PySem.Challenge.rw_nb0052_01
end Mine
end

section
open PySem PySem.W PyProof.Rows
namespace Mine
noncomputable abbrev PG : Program := PySem.Challenge.rw_nb0052_01.row.prog
noncomputable abbrev KF (w : World) : Frag := hd.heap_39 w.params
noncomputable abbrev LO0 : List Str := looseW hd.view_39 [Str.ofString "_Accumulator", Str.ofString "capwords"]
noncomputable abbrev LO : List Str := LO0 ++ (recsOf hd.view_39).map (·.name) ++ (litsOf hd.view_39).map (·.1) ++ (clssOf hd.view_39 LO0).map (·.name)
end Mine
end

section
open PySem PySem.W PyProof.Rows PySem.Calls
namespace Mine
structure Stop (p : Prop) : Prop where
  h : p
theorem stop1 {α : Type} {M : Model} {A : Around} {m : Sem α} {Q : α → Shared → Prop} {E : Value → Shared → Prop} {s : Shared} (h : Stop (wpAny M A m Q E s)) : wpAny M A m Q E s := h.h
theorem key_of {K : Frag} {f : Addr} {name qual name' qual' : Str} {params params' : Arguments} {body body' : List Stmt} {scope scope' : Scope} {dV kV doc pm ct oc cdv dV' kV' doc' pm' ct' oc' cdv' : Value} {an od an' od' : Option Addr} {osl osl' : Array (Option Value)}
    (hk : K.lookup f = some ⟨oc, od, .func (fnOf name qual params body scope dV kV doc pm an cdv ct), osl⟩) (h1 : K.lookup f = some ⟨oc', od', .func (fnOf name' qual' params' body' scope' dV' kV' doc' pm' an' cdv' ct'), osl'⟩) : body' = body ∧ qual' = qual ∧ scope' = scope ∧ cdv' = cdv := by
  have e := hk.symm.trans h1
  simp only [Option.some.injEq, Obj.mk.injEq, Data.func.injEq, fnOf, FuncData.mk.injEq] at e
  simp_all
theorem nsub {G h : Heap} {L : Addr} {n1 n2 : List (Addr × Obj)} (N : News G L h n1) (hs : ∀ p ∈ n2, p ∈ n1) : News G L h n2 := fun p hp => N p (hs p hp)
theorem news2 {G h : Heap} {L : Addr} {p q : Addr × Obj} {rest : List (Addr × Obj)} (N : News G L h (p :: q :: rest)) : News G L h [p, q] :=
  nsub N fun r hr => by
    rcases List.mem_cons.mp hr with rfl | hr
    · exact .head _
    · rw [List.mem_singleton.mp hr]; exact .tail _ (.head _)
theorem nim {α : Type} {x : α} {p : Prop} (h : x ∈ ([] : List α)) : p := nomatch h
theorem nc {d : Data} (h : Nat.beq d.ctorIdx (Data.cell none).ctorIdx = false) : ∀ u, d ≠ .cell u := fun u e => by subst e; exact Bool.noConfusion (show true = false from h)
theorem nf {d : Data} (h : Nat.beq d.ctorIdx (Data.fields #[]).ctorIdx = false) : ∀ z, d ≠ .fields z := fun u e => by subst e; exact Bool.noConfusion (show true = false from h)
end Mine
end

section
open PySem PySem.W PyProof.Rows PySem.Calls Builtin Builtin.ObjectAttr
set_option maxRecDepth 100000
set_option maxHeartbeats 4000000
namespace Mine
abbrev accObj (d : Addr) (vs : List Value) (n : Nat) : Obj := { cls := .ref 94, dict := some d, data := .seq vs.toArray n }

structure ClsL (M : Model) (h : Heap) : Prop where
  isT : Looks M h (isType (.ref 94)) true
  sub : Looks M h (isSubtype (.ref 94) (.type "list")) true
  self : Looks M h (isSubtype (.ref 94) (.ref 94)) true
  made : Looks M h (Bind.madeBy (.ref 94)) (some "list.__new__")
  base : Looks M h (Bind.staticBase (.ref 94)) (.ref 94)
  call : Looks M h (specialOf (.ref 94) "__call__") (some (.builtin "type.__call__"))
  typ : Looks M h (isInstance (.ref 94) (.type "type")) true
  mro : Looks M h (mroOf (.ref 94)) [.ref 94, .type "list", .type "object"]
  del : Looks M h (classHasDel 94) false

theorem clsL {w : World} {M : Model} {h : Heap} (X : (KF w).In h) : ClsL M h := by
  obtain ⟨oc, od, cd, sl, ho, e4, em, ed⟩ : ∃ oc od cd sl, (KF w).lookup 94 = some ⟨oc, od, .cls cd, sl⟩ ∧ (sl[4]?).join = some (.builtin "list.__new__") ∧ cd.mro = [.ref 94, .type "list", .type "object"] ∧ cd.hasDel = false := ⟨_, _, _, _, rfl, by kernel_rfl, by kernel_rfl, by kernel_rfl⟩
  have here := X _ _ ho
  have mr : Looks M h (mroOf (.ref 94)) [.ref 94, .type "list", .type "object"] := fun A Q E s k q => by
    have h1 := k _ _ here
    obtain ⟨hp, g, d, t, os⟩ := s
    unfold mroOf
    repeat lk
    rw [em]; exact q
  have mk : Looks M h (Bind.madeBy (.ref 94)) (some "list.__new__") := fun A Q E s k q => by
    have h1 := k _ _ here
    have h2 := mr.keeps k
    obtain ⟨hp, g, d, t, os⟩ := s
    unfold Bind.madeBy
    repeat lk
    rw [e4]
    repeat lk
    exact q
  have bs : Looks M h (Bind.staticBase (.ref 94)) (.ref 94) := fun A Q E s k q => by
    have h2 := mr.keeps k
    have h3 := mk.keeps k
    obtain ⟨hp, g, d, t, os⟩ := s
    unfold Bind.staticBase
    repeat lk
    exact q
  have hd : Looks M h (classHasDel 94) false := fun A Q E s k q => by
    have h1 := k _ _ here
    obtain ⟨hp, g, d, t, os⟩ := s
    unfold classHasDel
    repeat lk
    rw [ed]; exact q
  have ty : Looks M h (isType (.ref 94)) true := fun A Q E s k q => by
    have h1 := k _ _ here
    obtain ⟨hp, g, d, t, os⟩ := s
    unfold isType
    repeat lk
    exact q
  exact ⟨ty, looks_mroIn X (by kernel_rfl), looks_mroIn X (by kernel_rfl), mk, bs, looks_specialIn X (by kernel_rfl), looks_instIn X (by kernel_rfl), mr, hd⟩
end Mine
end

section
open PySem PySem.W PyProof.Rows PySem.Calls Builtin Builtin.ObjectAttr
set_option maxRecDepth 100000
set_option maxHeartbeats 4000000
namespace Mine
section
variable {w : World} {A : Around} {R : Result → Shared → Prop} {h : Heap} {g : Array GenState} {d : Drawn} {t : Nat} {os : OsState}

theorem acc_new {rest : List Value} (X : (KF w).In h)
    (hq : R (.ok (.ret (.ref (h.objs.size + 1)))) ⟨(h.push emptyDict).push (accObj h.objs.size [] 0), g, d, t, os⟩) :
    codeAny (model PG w) A (.call (.builtin "list.__new__") ⟨.ref 94 :: rest, []⟩) R ⟨h, g, d, t, os⟩ := by
  have C := clsL (M := model PG w) X
  obtain ⟨c1, c2, c3, c4, c5, c6, c7, c8, c9⟩ := C
  refine codeAny_call_builtin_code (Code.quiet_builtin _ (by decide +kernel)) ?_
  have ha : argsOk "list.__new__" ⟨.ref 94 :: rest, []⟩ := by unfold argsOk; kernel_rfl
  have hk : builtinKind "list.__new__" = some .builtinFn := by decide +kernel
  have hs : splitId "list.__new__" = some ("list", "__new__") := by decide +kernel
  have hsig : ∀ Q : Unit → Shared → Prop, ∀ E : Value → Shared → Prop, ∀ A' s', Q () s' → wpAny (model PG w) A' (match Manifest.signature? "list.__new__" with
      | some sig => Bind.checkArgs "list.__new__" sig ⟨.ref 94 :: rest, []⟩
      | _ => pure ()) Q E s' := by
    intro Q E A' s' q
    cases e : Manifest.signature? "list.__new__" with
    | none => exact wpAny_pure q
    | some sig =>
      simp only [argsOk, e] at ha
      have h2 : Bind.checkArgs "list.__new__" sig ⟨.ref 94 :: rest, []⟩ = pure () := ha
      dsimp only
      rw [h2]; exact wpAny_pure q
  simp only [checkBuiltinCall, hk, hs]
  rw [if_pos (by decide)]
  refine wpAny_bind (c1.at ?_)
  rw [if_neg (by decide)]
  refine wpAny_bind (c2.at ?_)
  rw [if_neg (by decide)]
  refine wpAny_bind (c5.at (wpAny_bind (c4.at ?_)))
  dsimp only
  rw [if_neg (by decide +kernel)]
  refine hsig _ _ _ _ ?_
  refine codeAny_builtin_stack F.entry_list_new rfl fun p st => ?_
  rw [Around.under_plainId F.plain_list_new _]
  have hown := owner_list_new
  simp only [hown]
  obtain ⟨oc, od, cd, sl, ho, ed⟩ : ∃ oc od cd sl, (KF w).lookup 94 = some ⟨oc, od, .cls cd, sl⟩ ∧ cd.hasDel = false := ⟨_, _, _, _, rfl, by kernel_rfl⟩
  have hC := X _ _ ho
  repeat lk
  refine nd_load (Heap.get?_push_of_some _ (Heap.get?_push_of_some _ hC)) ?_
  try dsimp only
  repeat lk
  rw [ed]
  repeat lk
  show R _ _
  rw [Heap.size_push]
  exact hq

theorem acc_make {rest : List Value} (X : (KF w).In h)
    (hq : codeAny (model PG w) (A.under (.builtin "type.__call__" ⟨.ref 94 :: rest, []⟩)) (.call (.ref 31) ⟨.ref (h.objs.size + 1) :: rest, []⟩) (InitBack (h.objs.size + 1) R) ⟨(h.push emptyDict).push (accObj h.objs.size [] 0), g, d, t, os⟩) :
    codeAny (model PG w) A (.call (.ref 94) ⟨rest, []⟩) R ⟨h, g, d, t, os⟩ := by
  have C := clsL (M := model PG w) X
  have l1 := C.call
  have l2 := C.isT
  obtain ⟨oc, od, cd, sl, ho, ed⟩ : ∃ oc od cd sl, (KF w).lookup 94 = some ⟨oc, od, .cls cd, sl⟩ ∧ cd.hasDel = false := ⟨_, _, _, _, rfl, by kernel_rfl⟩
  have here := X _ _ ho
  refine codeAny_of_tree ?_
  refine (show wpAny _ _ (callAny (.ref 94) _) _ _ _ from ?_)
  repeat lk
  refine ⟨rfl, (show codeAny _ _ (.call (.builtin "type.__call__") ⟨.ref 94 :: rest, []⟩) _ _ from codeAny_call_builtin_at (Code.quiet_builtin _ (by decide +kernel)) entry_typeCall (check_slot tc_kind tc_split C.typ (tc_args _ _ _) ?_))⟩
  have l3 := C.mro; have l4 := C.made; have l5 := C.base; have l6 := C.sub
  unfold Builtin.«type.__call__»
  repeat first | with_reducible refine wpAny_call ?_ | lk
  refine acc_new X ?_
  generalize hH : (h.push emptyDict).push (accObj h.objs.size [] 0) = H at hq ⊢
  have up : ∀ b o, h.get? b = some o → H.get? b = some o := fun b o e => hH ▸ Heap.get?_push_of_some _ (Heap.get?_push_of_some _ e)
  have born : H.get? (h.objs.size + 1) = some (accObj h.objs.size [] 0) := by rw [← hH]; heap_get
  have ofC : Looks (model PG w) H (typeOf (.ref (h.objs.size + 1))) (.ref 94) := (Looks.ld born).andThen .now
  have isC := C.self.keeps up
  have fI : Looks (model PG w) H (typeLookup (.ref 94) "__init__") (some (.ref 31)) := (looks_findIn X (by kernel_rfl)).keeps up
  have bI := (bind_fn (M := model PG w) X (.ref (h.objs.size + 1)) (f := 31) (by kernel_rfl)).keeps up
  unfold isInstance callSpecial? specialOf
  repeat first | with_reducible refine wpAny_call ?_ | lk
  refine codeAny_mono hq fun r s' back => ?_
  unfold InitBack at back
  split at back
  · obtain ⟨rfl, z⟩ := back
    repeat lk
    exact z
  · exact back.elim
  · exact back
end
end Mine
end

section
namespace Mine
theorem ax1 {i n : Nat} (h : i + 0 = n + 1) : n ≤ i := Nat.le_of_lt (Nat.lt_of_succ_le (Nat.le_of_eq h.symm))
theorem ax2 {i k n : Nat} (h : i + (k + 1) = n + 1) : i + 1 + k = n + 1 := (Nat.add_right_comm i 1 k).trans h
theorem ax3 (i l : Nat) : i + l - (i + 1) = l - 1 := Nat.add_sub_add_left i l 1
theorem ax4 {a i : Nat} (h : a ≤ i) : a - (i + 1) = 0 := Nat.sub_eq_zero_of_le (Nat.le_succ_of_le h)
theorem ax5 {a i n : Nat} (h : a - i = n + 1) : a - (i + 1) = n := (Nat.sub_add_eq a i 1).trans (congrArg Nat.pred h)
theorem ax6 {a i : Nat} (h : ¬ a ≤ i) : ∃ n, a - i = n + 1 := ⟨_, (Nat.succ_pred_eq_of_pos (Nat.sub_pos_of_lt (Nat.not_le.mp h))).symm⟩
theorem ax7 {i k n : Nat} (h : i + (k + 1) = n + 1) (h2 : ¬ i < n) : k = 0 := Nat.le_zero.mp (Nat.le_of_add_le_add_left (Nat.le_trans (Nat.le_of_eq (Nat.succ.inj h)) (Nat.not_lt.mp h2)))
theorem ax8 {l n i : Nat} (h : l ≤ n - i) (h2 : i < n) : i + l ≤ n := Nat.add_comm i l ▸ Nat.add_le_of_le_sub (Nat.le_of_lt h2) h
theorem ax9 {s i k n : Nat} (h : s ≤ i) (h2 : i + (k + 1) = n + 1) : s < n + 1 := Nat.lt_succ_of_le (Nat.le_trans h (Nat.succ.inj h2 ▸ Nat.le_add_right i k))
theorem ax_sub {n : Nat} {i j : Int} (h0 : 0 ≤ i) (h : (n : Int) ≤ j) : n - i.toNat ≤ (j - i).toNat := by
  obtain ⟨p, rfl⟩ := Int.eq_ofNat_of_zero_le h0
  exact Int.toNat_sub n p ▸ Int.toNat_le_toNat (Int.sub_le_sub_right h p)
theorem ax_clip {n : Nat} {j : Int} (h : (n : Int) ≤ j) : max 0 (min j (n : Int)) = n := by rw [Int.min_eq_right h, Int.max_eq_right (Int.natCast_nonneg n)]
theorem ax_min {a b : Nat} (h : min a b = a) : a ≤ b := Nat.le_trans (Nat.le_of_eq h.symm) (Nat.min_le_right a b)
theorem ax_cut (a b : Nat) : b - a ≤ b - min a b := Nat.sub_le_sub_left (Nat.min_le_left a b) b
theorem ax_back {n : Nat} (h : 1 ≤ n) : (-1 + (n : Int)) = ((n - 1 : Nat) : Int) := by rw [Int.natCast_sub h, Int.add_comm]; rfl
theorem ax_turn {n i : Nat} (h : i < n) : n + 1 - (i + 1) < n + 1 - i := Nat.sub_lt_sub_left (Nat.lt_succ_of_lt h) (Nat.lt_succ_self i)
theorem ax_turn2 {n k i : Nat} (h : i + (k + 1) = n) : i + 1 + k = n := (Nat.add_right_comm i 1 k).trans h
theorem ax_end {n i : Nat} (h : i ≤ n) (h2 : n - i = 0) : i = n := Nat.le_antisymm h (Nat.sub_eq_zero_iff_le.mp h2)
theorem ax_dep {d r n : Nat} (h : n ≤ r) : d + 1 + n ≤ d + (r + 1) := Nat.add_assoc d 1 n ▸ Nat.add_le_add_left (Nat.add_comm 1 n ▸ Nat.succ_le_succ h) d
theorem ax_un {d r n : Nat} (h : n ≤ r) : d + 3 + n ≤ d + (r + 3) := Nat.add_assoc d 3 n ▸ Nat.add_le_add_left (Nat.add_comm 3 n ▸ Nat.add_le_add_right h 3) d
theorem ax_lt {n i : Nat} (h : ¬ i < n) (h2 : i - n = 0) : i = n := Nat.le_antisymm (Nat.sub_eq_zero_iff_le.mp h2) (Nat.not_lt.mp h)
theorem ax_max (a n : Nat) : (max ((min a n : Nat) : Int) (n : Int)).toNat = n := by rw [Int.max_eq_right (Int.ofNat_le.mpr (Nat.min_le_right a n))]; rfl
theorem ite_shadow2 {α β : Type} [DecidableEq α] {x1 x2 : α} (A B vb va : β) (m : α → β) : (fun y => if y = x1 then A else if y = x2 then B else m y) = fun y => if y = x1 then A else if y = x2 then B else if y = x1 then vb else if y = x2 then va else m y := by
  funext y
  split
  · rfl
  · split
    · rfl
    · rfl
theorem ite_self2 {α β : Type} [DecidableEq α] {x1 x2 : α} (m : α → β) : m = fun y => if y = x1 then m x1 else if y = x2 then m x2 else m y := by
  funext y
  split
  · rename_i h; rw [h]
  · split
    · rename_i h; rw [h]
    · rfl
open PySem in
theorem seq_back (n : Nat) : seqIndex? (-1) (n + 1) = some n := by
  unfold seqIndex?
  simp only [show ((-1 : Int) < 0) = True from by simp, if_true]
  rw [ax_back (Nat.succ_pos n), decide_eq_true (Int.natCast_nonneg _), decide_eq_true (Int.ofNat_lt.mpr (Nat.sub_lt (Nat.succ_pos n) Nat.one_pos))]
  rfl
open PySem in
theorem le_line {n : Nat} (h : n ≤ 2000) : n ≤ sizeLine := Nat.le_trans h (by rw [sizeLine_eq]; decide)
open PySem in
theorem le_line2 {n m : Nat} (h : n ≤ 1000) (h2 : m ≤ 1000) : n + m ≤ sizeLine := le_line (Nat.add_le_add h h2)
end Mine
end

section
open PySem PySem.W PyProof.Rows PySem.Calls
namespace Mine
section
variable {h₀ h h' : Heap} {L : Addr} {m : Str → Option Value} {news : List (Addr × Obj)}
theorem fr_grow (F : Fr h₀ L h m) (hk : ∀ b o, h.get? b = some o → h'.get? b = some o) : Fr h₀ L h' m := by
  obtain ⟨oL, es, ep, hL, r⟩ := F.ns
  exact ⟨⟨oL, es, ep, hk _ _ hL, r⟩, fun b o e => hk b o (F.keep b o e), F.above⟩
theorem news_grow (F : Fr h₀ L h m) (N : News h₀ L h news) (hk : ∀ b o, h.get? b = some o → h'.get? b = some o) (add : List (Addr × Obj))
    (ha : ∀ p ∈ add, h'.get? p.1 = some p.2 ∧ h.objs.size ≤ p.1) : News h₀ L h' (add ++ news) := by
  obtain ⟨oL, es, ep, hL, r⟩ := F.ns
  intro p hp
  rcases List.mem_append.mp hp with q | q
  · obtain ⟨a, b⟩ := ha p q
    refine ⟨a, Nat.ne_of_gt (Nat.lt_of_lt_of_le (Heap.lt_size hL) b), ?_⟩
    cases z : h₀.get? p.1 with
    | none => rfl
    | some o => exact absurd (Heap.lt_size (F.keep _ _ z)) (Nat.not_lt.mpr b)
  · exact ⟨hk _ _ (N p q).1, (N p q).2⟩
theorem fr_but {a : Addr} (F : Fr h₀ L h m) (ha : a ≠ L) (ha0 : h₀.get? a = none) (hk : ∀ b o, b ≠ a → h.get? b = some o → h'.get? b = some o) : Fr h₀ L h' m := by
  obtain ⟨oL, es, ep, hL, r⟩ := F.ns
  exact ⟨⟨oL, es, ep, hk _ _ (Ne.symm ha) hL, r⟩, fun b o e => hk b o (fun z => by rw [z, ha0] at e; cases e) (F.keep b o e), F.above⟩
theorem news_but {a : Addr} (N : News h₀ L h news) (hn : ∀ p ∈ news, p.1 ≠ a) (hk : ∀ b o, b ≠ a → h.get? b = some o → h'.get? b = some o) : News h₀ L h' news :=
  fun p hp => ⟨hk _ _ (hn p hp) (N p hp).1, (N p hp).2⟩
end
end Mine
end

section
open PySem PySem.W PyProof.Rows PySem.Calls Builtin Builtin.ObjectAttr
set_option maxRecDepth 100000
set_option maxHeartbeats 4000000
namespace Mine
abbrev szDict (w : World) (k : Int) (tk tn : Tok) (n : Nat) : Obj := { cls := .type "dict", data := .dict #[⟨PyData.keyHash w.params (Str.ofString "_initial_size"), .str (Str.ofString "_initial_size") tn, .int k tk⟩] n }
structure Acc (w : World) (h : Heap) (a d : Addr) (vs : List Value) (k : Int) : Prop where
  obj : ∃ n, h.get? a = some (accObj d vs n)
  dct : ∃ tk tn n, h.get? d = some (szDict w k tk tn n)
  small : vs.length ≤ 1000
theorem Acc.inst {w h a d vs k} (x : Acc w h a d vs k) : ∃ n tk tn n', InstAt h a (accObj d vs n) 94 (some (szDict w k tk tn n')) := by
  obtain ⟨⟨n, ho⟩, ⟨tk, tn, n', hd⟩, _⟩ := x
  exact ⟨n, tk, tn, n', ⟨ho, rfl, rfl, hd⟩⟩
section
variable {w : World} {A : Around} {E : Value → Shared → Prop} {s : Shared} {a d : Addr} {vs : List Value} {k : Int}
theorem canon_list_ga : (Manifest.canonical "list.__getattribute__" != "object.__getattribute__") = false := by decide +kernel
theorem acc_ga {w : World} : findIn (KF w) (.ref 94) (Str.ofString "__getattribute__") = some (some (.builtin "list.__getattribute__")) := by kernel_rfl
theorem acc_noga {w : World} : findIn (KF w) (.ref 94) (Str.ofString "__getattr__") = some none := by kernel_rfl
theorem acc_isList {M : Model} {h : Heap} (X : (KF w).In h) (x : Acc w h a d vs k) : Looks M h (isInstance (.ref a) (.type "list")) true := by
  obtain ⟨n, tk, tn, n', I⟩ := x.inst
  exact I.type.andThen (clsL X).sub
theorem acc_entry_ga : entryFor table "list.__getattribute__" = some Builtin.«object.__getattribute__» :=
  entryFor_alias (id' := "object.__getattribute__") (by kernel_rfl) (by first | rfl | decide +kernel | (unfold String.splitOn; simp +decide [String.splitOnAux])) (by decide +kernel) (by kernel_rfl)
theorem acc_size {expr : Bool} {Q : Value → Shared → Prop} (X : (KF w).In s.heap) (x : Acc w s.heap a d vs k) (h : ∀ tk, Q (.int k tk) { s with toks := s.toks + 1 }) :
    wpAny (model PG w) A (getAttr (.ref a) (Str.ofString "_initial_size") expr) Q E s := by
  have il := acc_isList (M := model PG w) X x
  obtain ⟨n, tk, tn, n', I⟩ := x.inst
  obtain ⟨hh, g, dr, t, os⟩ := s
  have L0 := I.type (M := model PG w)
  have L1 := looks_findIn (M := model PG w) X acc_ga
  have L2 := looks_findIn (M := model PG w) X acc_noga
  unfold getAttr getAttrBy
  refine wpAny_bind (wpAny_mkText (wpAny_holding (wpAny_bind (L0.at (wpAny_bind (L1.at ?_))))))
  show wpAny _ _ (getAttrByItsOwn _ _ _ _ _ _) _ _ _
  unfold getAttrByItsOwn hookBefore
  rw [show onTheHeap (.ref 94) = true from rfl, if_pos rfl]
  refine wpAny_bind (L2.at (wpAny_bind (wpAny_attempt (wpAny_holding ?_))))
  unfold callGetattribute
  rw [show (expr && onTheHeap (Value.builtin "list.__getattribute__")) = false from Bool.and_false _, if_neg (by decide)]
  unfold boundAndCalled
  rw [F.slot_list_getattribute.bind]
  refine wpAny_bind (wpAny_pure (wpAny_call ?_))
  refine codeAny_call_builtin F.slot_list_getattribute.plain acc_entry_ga ?_
  refine @check_slot (model PG w) _ _ ⟨hh, g, dr, t + 1, os⟩ "list.__getattribute__" "list" "__getattribute__" (.ref a) [.str (Str.ofString "_initial_size") t] [] _ (by decide +kernel) (by decide +kernel) il (F.args_list_getattribute_2 _ _) ?_
  have L3 := looks_find (M := model PG w) X I (name := Str.ofString "_initial_size") (r := .value (.int k tk)) (by kernel_rfl)
  refine wpAny_bind (wpAny_pure (wpAny_bind (wpAny_pure (wpAny_bind (L0.at (wpAny_bind (L3.at ?_)))))))
  exact wpAny_pure (wpAny_pure (h tk))
theorem acc_meth {name : Str} {f : Value} {T : String} {pl : Sem Bool} {Q : Value × List Value → Shared → Prop} (X : (KF w).In s.heap) (x : Acc w s.heap a d vs k) (hf : findIn (KF w) (.ref 94) name = some (some f)) (ht : typeIn (KF w) f = some (.type T))
    (hT : (Value.type T != .type "function" && Value.type T != .type "method_descriptor" && Value.type T != .type "wrapper_descriptor") = false)
    (hn : (Str.ofString "_initial_size" == name) = false) (h : Q (f, [.ref a]) s) : wpAny (model PG w) A (getMethod (.ref a) name pl) Q E s := by
  obtain ⟨n, tk, tn, n', I⟩ := x.inst
  obtain ⟨hh, g, dr, t, os⟩ := s
  have L0 := I.type (M := model PG w)
  have hd := I.dict
  unfold getMethod specialOf
  refine wpAny_bind (wpAny_bind (L0.at ((looks_findIn X acc_ga).at ?_)))
  dsimp only
  rw [canon_list_ga, if_neg (by decide)]
  refine wpAny_bind (wpAny_bind (L0.at ((looks_findIn X acc_noga).at ?_)))
  refine wpAny_bind (wpAny_bind (L0.at ((looks_findIn X hf).at (wpAny_bind ((looks_typeIn X ht).at ?_)))))
  rw [hT, if_neg (by decide)]
  refine wpAny_bind (wpAny_loadPart I.at_ ?_)
  refine wpAny_bind (wpAny_bind (wpAny_loadPart hd ?_))
  rw [nsLook_of (r := none) (by
    unfold lookIn
    simp only [List.find?_cons, Value.isStr, hn, List.find?_nil, List.any_cons, List.any_nil, DictEntry.refKey]
    rfl)]
  exact wpAny_pure (wpAny_bind (wpAny_rule (wpAny_pure h)))
end
end Mine
end

section
open PySem PySem.W PyProof.Rows PySem.Calls Builtin Builtin.ObjectAttr
set_option maxRecDepth 100000
set_option maxHeartbeats 4000000
namespace Mine
theorem pass_list (self : Value) : refuseLoop self "__setattr__" [.type "list", .type "object"] = pure () := by kernel_rfl
theorem acc_nosize {w : World} : findIn (KF w) (.ref 94) (Str.ofString "_initial_size") = some none := by kernel_rfl
theorem acc_sa {w : World} : findIn (KF w) (.ref 94) (Str.ofString "__setattr__") = some (some (.builtin "object.__setattr__")) := by kernel_rfl
section
variable {w : World} {A : Around} {E : Value → Shared → Prop} {s : Shared} {a d : Addr} {vs : List Value} {n : Nat}
theorem put_empty (kh : Int) (nm v : Value) (name : Str) : Obj.putName name kh nm v emptyDict = { cls := .type "dict", data := .dict #[⟨kh, nm, v⟩] 1 } := by rfl
theorem put_one {w : World} (k k' : Int) (tk tk' tn tt : Tok) (n : Nat) : Obj.putName (Str.ofString "_initial_size") (PyData.keyHash w.params (Str.ofString "_initial_size")) (.str (Str.ofString "_initial_size") tt) (.int k' tk') (szDict w k tk tn n) = szDict w k' tk' tn n := by kernel_rfl
theorem acc_setattr {od : Obj} {k' : Int} {tk' : Tok} {Q : Unit → Shared → Prop} (X : (KF w).In s.heap) (hx : s.heap.get? a = some (accObj d vs n)) (hd : s.heap.get? d = some od)
    (he : od = emptyDict ∨ ∃ k tk tn n, od = szDict w k tk tn n)
    (h : ∀ h' tt, (∀ b o, b ≠ d → s.heap.get? b = some o → h'.get? b = some o) → (∃ tn n, h'.get? d = some (szDict w k' tk' tn n)) → h'.objs.size = s.heap.objs.size → Q () { s with heap := h', toks := tt }) :
    wpAny (model PG w) A (setAttr (.ref a) (Str.ofString "_initial_size") (.int k' tk')) Q E s := by
  have I : InstAt s.heap a (accObj d vs n) 94 (some od) := ⟨hx, rfl, rfl, hd⟩
  have sub : Looks (model PG w) s.heap (isInstance (.ref a) (.type "object")) true := I.type.andThen (looks_mroIn X (by kernel_rfl))
  refine set_plain X I acc_sa ?_
  have SF := PySem.F.store_object
  obtain ⟨hh, g, dr, t, os⟩ := s
  refine codeAny_call_builtin SF.slot.plain SF.entry (@check_slot (model PG w) _ _ ⟨hh, g, dr, t + 1, os⟩ "object.__setattr__" "object" "__setattr__" (.ref a) [.str (Str.ofString "_initial_size") t, .int k' tk'] [] _ SF.kind SF.split sub (SF.args (.ref a) (.str (Str.ofString "_initial_size") t) (.int k' tk')) ?_)
  have C := clsL (M := model PG w) X
  rw [osa_eq, refuse_eq]
  refine wpAny_bind (wpAny_bind (I.type.at (wpAny_bind (C.mro.at ?_))))
  rw [refuseLoop_ref, pass_list]
  refine wpAny_pure (wpAny_bind (I.type.at (wpAny_bind ((looks_findIn X acc_nosize).at ?_))))
  refine wpAny_bind (wpAny_pure ?_)
  obtain ⟨cd, hc, hh9⟩ : ∃ cd, clsIn (KF w) 94 = some cd ∧ cd.hasDict = true := ⟨_, rfl, by kernel_rfl⟩
  have hx' : hh.get? a = some (accObj d vs n) := hx
  have hd' : hh.get? d = some od := hd
  refine wpAny_bind (wpAny_pure (wpAny_bind (wpAny_bind (wpAny_loadPart hx' (wpAny_bind ((looks_clsIn X hc).at ?_))))))
  rw [hh9]
  refine wpAny_pure (a := some d) (wpAny_bind (wpAny_pure (wpAny_bind ?_)))
  unfold nsSet
  refine wpAny_bind (wpAny_bind (wpAny_askSetting (wpAny_pure (wpAny_bind (wpAny_mkText (wpAny_bind (wpAny_loadPart hd' ?_)))))))
  obtain ⟨es, ne, od', eo, er, e1, ⟨tn9, n9, e2⟩⟩ : ∃ es ne od', od.data = .dict es ne ∧ aRefKeyMayBeTheName (Str.ofString "_initial_size") es = false ∧
      Obj.putName (Str.ofString "_initial_size") (PyData.keyHash w.params (Str.ofString "_initial_size")) (.str (Str.ofString "_initial_size") (t + 1)) (.int k' tk') od = od' ∧ (∃ tn n, od' = szDict w k' tk' tn n) := by
    rcases he with rfl | ⟨k, tk, tn, n', rfl⟩
    · exact ⟨_, _, _, rfl, by kernel_rfl, put_empty _ _ _ _, ⟨_, _, rfl⟩⟩
    · exact ⟨_, _, _, rfl, by kernel_rfl, put_one _ _ _ _ _ _ _, ⟨_, _, rfl⟩⟩
  rw [eo]
  dsimp only
  rw [er]
  have D' : (hh.update d (Obj.putName (Str.ofString "_initial_size") (PyData.keyHash w.params (Str.ofString "_initial_size")) (.str (Str.ofString "_initial_size") (t + 1)) (.int k' tk'))).get? d = some (szDict w k' tk' tn9 n9) := by
    rw [Heap.get?_update_self _ hd' (by rw [e1, e2]; rfl), e1, e2]
  refine wpAny_updatePart hd' ?_
  refine wpAny_bind (wpAny_lookBehind D' (pastItsLine_dict (by rw [sizeLine_eq]; exact Nat.le_of_ble_eq_true rfl)) ?_)
  exact wpAny_pure (h _ _ (fun b o hb e => (Heap.get?_update_ne _ _ _ _ hb).trans e) ⟨_, _, D'⟩ (Heap.SameBut.update ..).1)
end
end Mine
end

section
open PySem PySem.W PyProof.Rows PySem.Calls Builtin Builtin.ObjectAttr
set_option maxRecDepth 100000
set_option maxHeartbeats 4000000
namespace Mine
theorem check_meth {M : Model} {A : Around} {E : Value → Shared → Prop} {s : Shared} {i owner n : String} {self : Value} {rest : List Value} {Q : Unit → Shared → Prop}
    (hk : builtinKind i = some .method) (hs : splitId i = some (owner, n)) (hi : Looks M s.heap (isInstance self (.type owner)) true) (ha : argsOk i ⟨self :: rest, []⟩) (q : Q () s) :
    wpAny M A (checkBuiltinCall i ⟨self :: rest, []⟩) Q E s := by
  obtain ⟨h, g, d, t, os⟩ := s
  unfold checkBuiltinCall
  rw [hk, hs]
  repeat lk
  unfold argsOk at ha
  revert ha
  cases Manifest.signature? i with
  | none => exact fun _ => wpAny_pure q
  | some sig => exact fun ha => wpAny_of_eq (show Bind.checkArgs i sig ⟨self :: rest, []⟩ = pure () from ha) q
section
variable {w : World} {A : Around} {s : Shared} {a d : Addr} {vs : List Value} {k : Int} {R : Result → Shared → Prop}
theorem acc_update {n : Nat} {h : Heap} (ho : h.get? a = some (accObj d vs n)) (f : Array Value → Array Value) (vs' : List Value) (hf : f vs.toArray = vs'.toArray) : ∃ n', (h.update a (Obj.mapSeq f)).get? a = some (accObj d vs' n') := by
  refine ⟨if vs'.toArray.size == vs.toArray.size then n else n + 1, ?_⟩
  rw [Heap.get?_update_self _ ho (by rfl)]
  show some (Obj.mk _ _ (.seq (f vs.toArray) _) _) = _
  rw [hf]
theorem acc_append {v : Value} (X : (KF w).In s.heap) (x : Acc w s.heap a d vs k) (hs : vs.length < 1000)
    (h : ∀ h', (∀ b o, b ≠ a → s.heap.get? b = some o → h'.get? b = some o) → (∃ n, h'.get? a = some (accObj d (vs ++ [v]) n)) → h'.objs.size = s.heap.objs.size → R (.ok (.ret .none)) { s with heap := h' }) :
    codeAny (model PG w) A (.call (.builtin "list.append") ⟨[.ref a, v], []⟩) R s := by
  have il := acc_isList (M := model PG w) X x
  obtain ⟨⟨n, ho⟩, _, _⟩ := x
  refine codeAny_call_builtin (by decide +kernel) (show entryFor table "list.append" = some Builtin.«list.append» from entryFor_of_tree (by kernel_rfl)) (@check_meth (model PG w) _ _ s "list.append" "list" "append" (.ref a) [v] _ (by decide +kernel) (by decide +kernel) il (by unfold argsOk; kernel_rfl) ?_)
  obtain ⟨n', e⟩ := acc_update ho (·.push v) (vs ++ [v]) (by simp)
  show wpAny _ _ (updateSeq a (·.push v) >>= _) _ _ _
  refine wpAny_bind (wpAny_updateSeq ho rfl ?_)
  exact wpAny_pure (h _ (fun b o hb e => (Heap.get?_update_ne _ _ _ _ hb).trans e) ⟨n', e⟩ (Heap.SameBut.update ..).1)
theorem acc_llen (x : Acc w s.heap a d vs k) (h : ∀ t k', R (.ok (.ret (.int vs.length t))) { s with toks := k' }) :
    codeAny (model PG w) A (.builtin "list.__len__" ⟨[.ref a], []⟩) R s := by
  obtain ⟨⟨n, ho⟩, _, _⟩ := x
  refine codeAny_builtin F.entry_list_len ?_
  rw [Around.under_plainId (by decide +kernel)]
  obtain ⟨hh, g, dr, t, os⟩ := s
  unfold Builtin.«list.__len__»
  repeat lk
  rw [show vs.toArray.size = vs.length from List.size_toArray ..]
  exact h _ _
theorem acc_lpop {us : List Value} {v : Value} (hv : vs = us ++ [v]) (x : Acc w s.heap a d vs k)
    (h : ∀ h', (∀ b o, b ≠ a → s.heap.get? b = some o → h'.get? b = some o) → (∃ n, h'.get? a = some (accObj d us n)) → h'.objs.size = s.heap.objs.size → R (.ok (.ret v)) { s with heap := h' }) :
    codeAny (model PG w) A (.builtin "list.pop" ⟨[.ref a], []⟩) R s := by
  obtain ⟨⟨n, ho⟩, _, hsm⟩ := x
  refine codeAny_builtin F.entry_list_pop ?_
  rw [Around.under_plainId (by decide +kernel)]
  have hi : ((PySem.seqIndex? (-1) vs.toArray.size).bind fun k => vs.toArray[k]?.map (k, ·)) = some (us.length, v) := by
    subst hv
    have e1 : (us ++ [v]).toArray.size = us.length + 1 := by simp
    rw [e1]
    rw [seq_back]
    simp
  have hne : vs.toArray.isEmpty = false := by subst hv; simp
  have her : vs.toArray.eraseIdxIfInBounds us.length = us.toArray := by
    subst hv
    simp only [List.eraseIdxIfInBounds_toArray]
    rw [List.eraseIdx_append_of_length_le (Nat.le_refl _)]
    simp
  obtain ⟨n', e⟩ := acc_update ho (·.eraseIdxIfInBounds us.length) us her
  obtain ⟨hh, g, dr, t, os⟩ := s
  unfold Builtin.«list.pop»
  repeat lk
  rw [hne, if_neg (by decide)]
  have hi' := hi
  rw [hi']
  dsimp only
  show wpAny _ _ (updateSeq a (·.eraseIdxIfInBounds us.length) >>= _) _ _ _
  have hz : vs.toArray.size ≤ sizeLine := by rw [List.size_toArray]; exact le_line (Nat.le_trans hsm (by decide))
  refine wpAny_bind (wpAny_updateSeq ho rfl ?_ hz (by rw [her, List.size_toArray]; subst hv; rw [List.length_append] at hsm; exact Nat.le_succ_of_le (le_line (Nat.le_trans (Nat.le_of_add_right_le hsm) (by decide)))))
  exact wpAny_pure (h _ (fun b o hb e => (Heap.get?_update_ne _ _ _ _ hb).trans e) ⟨n', e⟩ (Heap.SameBut.update ..).1)
theorem acc_linit {n : Nat} (ho : s.heap.get? a = some (accObj d vs n)) (hsm : vs.length ≤ 1000)
    (h : ∀ h', (∀ b o, b ≠ a → s.heap.get? b = some o → h'.get? b = some o) → (∃ n, h'.get? a = some (accObj d [] n)) → h'.objs.size = s.heap.objs.size → R (.ok (.ret .none)) { s with heap := h' }) :
    codeAny (model PG w) A (.builtin "list.__init__" ⟨[.ref a], []⟩) R s := by
  refine codeAny_builtin F.entry_list_init ?_
  rw [Around.under_plainId (by decide +kernel)]
  obtain ⟨n', e⟩ := acc_update ho (fun _ => #[]) [] (by simp)
  show wpAny _ _ (Builtin.List.listItems (.ref a) >>= _) _ _ _
  refine wpAny_bind (wpAny_bind (wpAny_seqItems ho rfl (wpAny_pure (wpAny_bind ?_))))
  show wpAny _ _ (updateSeq a (fun _ => #[])) _ _ _
  have hz : vs.toArray.size ≤ sizeLine := by rw [List.size_toArray]; exact le_line (Nat.le_trans hsm (by decide))
  refine wpAny_updateSeq ho rfl ?_ hz
  refine wpAny_bind (wpAny_letGo (wpAny_pure ?_))
  exact h _ (fun b o hb e => (Heap.get?_update_ne _ _ _ _ hb).trans e) ⟨n', e⟩ (Heap.SameBut.update ..).1
end
end Mine
end

section
open PySem PySem.W PyProof.Rows PySem.Calls Builtin Builtin.ObjectAttr
set_option maxRecDepth 100000
set_option maxHeartbeats 4000000
namespace Mine
namespace Sup
theorem slot_wg : Slot "wrapper_descriptor" "__get__" "wrapper_descriptor.__get__" :=
  .of (owner := "wrapper_descriptor") (n := "__get__") (by rw [typeLookup_type, builtinLookup_eq_fast]; kernel_rfl) (by decide +kernel) (by decide +kernel) (by decide +kernel)
    (by first | exact .inl (by decide +kernel) | exact .inr (by decide +kernel)) (by rw [isSubtype_type]; kernel_rfl)
theorem slot_mg : Slot "method_descriptor" "__get__" "method_descriptor.__get__" :=
  .of (owner := "method_descriptor") (n := "__get__") (by rw [typeLookup_type, builtinLookup_eq_fast]; kernel_rfl) (by decide +kernel) (by decide +kernel) (by decide +kernel)
    (by first | exact .inl (by decide +kernel) | exact .inr (by decide +kernel)) (by rw [isSubtype_type]; kernel_rfl)
theorem entry_wg : entryFor table "wrapper_descriptor.__get__" = some Builtin.«wrapper_descriptor.__get__» := entryFor_of_tree (by kernel_rfl)
theorem entry_mg : entryFor table "method_descriptor.__get__" = some Builtin.«method_descriptor.__get__» := entryFor_of_tree (by kernel_rfl)
theorem args_wg (a b c : Value) : argsOk "wrapper_descriptor.__get__" ⟨[a, b, c], []⟩ := by unfold argsOk; kernel_rfl
theorem args_mg (a b c : Value) : argsOk "method_descriptor.__get__" ⟨[a, b, c], []⟩ := by unfold argsOk; kernel_rfl
theorem type_len : typeOf (.builtin "list.__len__") = pure (.type "wrapper_descriptor") := by show builtinType _ = _; rw [builtinType_eq_fast]; kernel_rfl
theorem type_init : typeOf (.builtin "list.__init__") = pure (.type "wrapper_descriptor") := by show builtinType _ = _; rw [builtinType_eq_fast]; kernel_rfl
theorem type_pop : typeOf (.builtin "list.pop") = pure (.type "method_descriptor") := by show builtinType _ = _; rw [builtinType_eq_fast]; kernel_rfl
abbrev bndO (B id : String) (x : Addr) : Obj := { cls := .type B, data := .fields #[.builtin id, .ref x] }
section
variable {w : World} {A : Around} {h : Heap} {g : Array GenState} {d : Drawn} {t : Nat} {os : OsState} {x : Addr} {E : Value → Shared → Prop} {Q : Value → Shared → Prop}
theorem get_len (il : Looks (model PG w) h (isInstance (.ref x) (.type "list")) true) (hq : Q (.ref h.objs.size) ⟨h.push (bndO "method-wrapper" "list.__len__" x), g, d, t, os⟩) :
    wpAny (model PG w) A (call (.builtin "wrapper_descriptor.__get__") [.builtin "list.__len__", .ref x, .ref 94]) Q E ⟨h, g, d, t, os⟩ := by
  have hT : (⟨h, g, d, t, os⟩ : Shared).TypeIs (.builtin "list.__len__") "wrapper_descriptor" := type_len
  have il' : Looks (model PG w) h (isInstance (.ref x) (.type (".".intercalate ("list.__len__".cutAt '.').dropLast))) true := by
    rw [show ".".intercalate ("list.__len__".cutAt '.').dropLast = "list" from by decide +kernel]; exact il
  refine wpAny_call_entry slot_wg hT entry_wg ?_ (args_wg _ _ _)
  unfold Builtin.«wrapper_descriptor.__get__»
  repeat lk
  exact ⟨_, rfl, hq⟩
theorem get_init (il : Looks (model PG w) h (isInstance (.ref x) (.type "list")) true) (hq : Q (.ref h.objs.size) ⟨h.push (bndO "method-wrapper" "list.__init__" x), g, d, t, os⟩) :
    wpAny (model PG w) A (call (.builtin "wrapper_descriptor.__get__") [.builtin "list.__init__", .ref x, .ref 94]) Q E ⟨h, g, d, t, os⟩ := by
  have hT : (⟨h, g, d, t, os⟩ : Shared).TypeIs (.builtin "list.__init__") "wrapper_descriptor" := type_init
  have il' : Looks (model PG w) h (isInstance (.ref x) (.type (".".intercalate ("list.__init__".cutAt '.').dropLast))) true := by
    rw [show ".".intercalate ("list.__init__".cutAt '.').dropLast = "list" from by decide +kernel]; exact il
  refine wpAny_call_entry slot_wg hT entry_wg ?_ (args_wg _ _ _)
  unfold Builtin.«wrapper_descriptor.__get__»
  repeat lk
  exact ⟨_, rfl, hq⟩
theorem get_pop (il : Looks (model PG w) h (isInstance (.ref x) (.type "list")) true) (it : Looks (model PG w) h (isType (.ref 94)) true) (hq : Q (.ref h.objs.size) ⟨h.push (bndO "builtin_function_or_method" "list.pop" x), g, d, t, os⟩) :
    wpAny (model PG w) A (call (.builtin "method_descriptor.__get__") [.builtin "list.pop", .ref x, .ref 94]) Q E ⟨h, g, d, t, os⟩ := by
  have hT : (⟨h, g, d, t, os⟩ : Shared).TypeIs (.builtin "list.pop") "method_descriptor" := type_pop
  have il' : Looks (model PG w) h (isInstance (.ref x) (.type (".".intercalate ("list.pop".cutAt '.').dropLast))) true := by
    rw [show ".".intercalate ("list.pop".cutAt '.').dropLast = "list" from by decide +kernel]; exact il
  refine wpAny_call_entry slot_mg hT entry_mg ?_ (args_mg _ _ _)
  unfold Builtin.«method_descriptor.__get__»
  repeat lk
  exact ⟨_, rfl, hq⟩

theorem sup_ga {so : Addr} {name : Str} {tk : Tok} {id gid B T : String} {Q : Fin → Shared → Prop} (X : (KF w).In h)
    (hso : h.get? so = some { cls := .type "super", dict := none, data := .fields #[.ref 94, .ref x, .ref 94], slots := #[] })
    (hf : builtinOwn "list" name = some (.builtin id)) (hty : typeOf (.builtin id) = pure (.type T)) (hlk : typeLookup (.type T) "__get__" = pure (some (.builtin gid)))
    (hxC : x ≠ 94) (hn : (name == ("__class__" : Str)) = false)
    (hcall : ∀ (A : Around) (E : Value → Shared → Prop) (Q : Value → Shared → Prop), Q (.ref h.objs.size) ⟨h.push (bndO B id x), g, d, t, os⟩ → wpAny (model PG w) A (call (.builtin gid) [.builtin id, .ref x, .ref 94]) Q E ⟨h, g, d, t, os⟩)
    (hq : Q (.done (.ret (.ref h.objs.size))) ⟨h.push (bndO B id x), g, d, t, os⟩) :
    wpAny (model PG w) A (Builtin.«super.__getattribute__» ⟨[.ref so, .str name tk], []⟩) Q E ⟨h, g, d, t, os⟩ := by
  have no : Looks (model PG w) h (opaqueClassAbove (.ref 94)) none := looks_opaque X (by kernel_rfl)
  have mr := (clsL (M := model PG w) X).mro
  have ty : Looks (model PG w) h (typeOf (.builtin id)) (.type T) := Looks.of_pure hty
  have tl : Looks (model PG w) h (typeLookup (.type T) "__get__") (some (.builtin gid)) := Looks.of_pure hlk
  have ne : (Value.ref x == Value.ref 94) = false := beq_false_of_ne fun z => hxC (Value.ref.inj z)
  have p0 : (#[.ref 94, .ref x, .ref 94] : Array Value)[0] = .ref 94 := rfl
  have p1 : (#[.ref 94, .ref x, .ref 94] : Array Value)[1] = .ref x := rfl
  have p2 : (#[.ref 94, .ref x, .ref 94] : Array Value)[2] = .ref 94 := rfl
  unfold Builtin.«super.__getattribute__»
  repeat lk
  rw [p0, p1, p2, hn, ne, if_neg (by decide)]
  refine wpAny_bind (ks_wpAny_notOpaque no ?_)
  repeat lk
  simp only [Bool.false_eq_true, if_false]
  rw [hf]
  repeat first | with_reducible refine hcall _ _ _ ?_ | lk
  exact hq
theorem sup_meth {so : Addr} {name : Str} {id gid B T : String} {pl : Sem Bool} {Q : Value × List Value → Shared → Prop} (X : (KF w).In h)
    (hso : h.get? so = some { cls := .type "super", dict := none, data := .fields #[.ref 94, .ref x, .ref 94], slots := #[] })
    (hf : builtinOwn "list" name = some (.builtin id)) (hty : typeOf (.builtin id) = pure (.type T)) (hlk : typeLookup (.type T) "__get__" = pure (some (.builtin gid)))
    (hxC : x ≠ 94) (hn : (name == ("__class__" : Str)) = false)
    (hcall : ∀ (A : Around) (E : Value → Shared → Prop) (Q : Value → Shared → Prop), Q (.ref h.objs.size) ⟨h.push (bndO B id x), g, d, t + 1, os⟩ → wpAny (model PG w) A (call (.builtin gid) [.builtin id, .ref x, .ref 94]) Q E ⟨h, g, d, t + 1, os⟩)
    (hq : Q (.ref h.objs.size, []) ⟨h.push (bndO B id x), g, d, t + 1, os⟩) :
    wpAny (model PG w) A (getMethod (.ref so) name pl) Q E ⟨h, g, d, t, os⟩ := by
  have ts : Looks (model PG w) h (typeOf (.ref so)) (.type "super") := (Looks.ld hso).andThen .now
  have tg : Looks (model PG w) h (typeLookup (.type "super") (Str.ofString "__getattribute__")) (some (.builtin "super.__getattribute__")) := Looks.of_pure F.ks_slot_super_ga.lookup
  have ta : Looks (model PG w) h (typeLookup (.type "super") (Str.ofString "__getattr__")) none := Looks.of_pure (by rw [typeLookup_type, builtinLookup_eq_fast]; kernel_rfl)
  have ga : ∀ A, wpAny (model PG w) A (call (.builtin "super.__getattribute__") ([.ref so] ++ [.str name t])) (fun v s' => v = .ref h.objs.size ∧ s' = ⟨h.push (bndO B id x), g, d, t + 1, os⟩) (fun _ _ => False) ⟨h, g, d, t + 1, os⟩ := fun A =>
    wpAny_call_entry F.ks_slot_super_ga ⟨_, hso, rfl⟩ F.ks_entry_super_ga (sup_ga X hso hf hty hlk hxC hn hcall ⟨_, rfl, rfl, rfl⟩) (F.ks_gaArgs_super _ _)
  unfold getMethod
  repeat first
    | with_reducible refine wpAny_attempt ?_
    | with_reducible refine wpAny_mono (ga _) ?_ fun _ _ z => z.elim
    | lk
  rintro v s' ⟨rfl, rfl⟩
  repeat lk
  exact hq
end
end Sup
end Mine
end

section
open PySem PySem.W PyProof.Rows PySem.Calls Builtin Builtin.ObjectAttr
set_option maxRecDepth 100000
set_option maxHeartbeats 4000000
namespace Mine
namespace Sup
theorem boundOk {M : Model} {A : Around} {E : Value → Shared → Prop} {s : Shared} {id : String} {args : Args} {Q : Unit → Shared → Prop} {kd} (hk : builtinKind id = some kd) (hkd : (kd != .method && kd != .classMethod) = true) (ha : argsOk id args) (hp : args.pos ≠ []) (q : Q () s) : wpAny M A (checkBoundCall id args) Q E s := by
  unfold checkBoundCall
  cases e : Manifest.signature? id with
  | none => exact wpAny_pure q
  | some sig =>
    simp only [argsOk, e] at ha
    obtain ⟨pos, kw⟩ := args
    cases pos with
    | nil => exact absurd rfl hp
    | cons v vs =>
      simp only [hk]
      rw [if_pos hkd]
      have h2 : Bind.checkArgs id sig ⟨v :: vs, kw⟩ = pure () := ha
      rw [h2]; exact wpAny_pure q
section
variable {w : World} {A : Around} {s : Shared} {a d : Addr} {vs : List Value} {k : Int} {R : Result → Shared → Prop} {q : Addr}
theorem call_wrap {id : String} (hq : s.heap.get? q = some (bndO "method-wrapper" id a)) (hk : builtinKind id = some .slot) (ha : argsOk id ⟨[.ref a], []⟩) (hqt : (Code.builtin id ⟨[.ref a], []⟩).quiet = true)
    (h : codeAny (model PG w) A (.builtin id ⟨[.ref a], []⟩) R s) : codeAny (model PG w) A (.call (.ref q) ⟨[], []⟩) R s := by
  refine codeAny_of_tree ?_
  show wpAny _ A.in1 (callAny (.ref q) ⟨[], []⟩) _ _ _
  unfold callAny
  refine wpAny_bind (wpAny_load hq ?_)
  show wpAny _ _ (checkBoundCall id ⟨[.ref a], []⟩ >>= fun _ => again (.builtin id ⟨[.ref a], []⟩)) _ _ _
  refine wpAny_bind (boundOk hk rfl ha (by simp) ?_)
  exact wpAny_pure ⟨hqt, h⟩
theorem call_pop (X : (KF w).In s.heap) (x : Acc w s.heap a d vs k) (hq : s.heap.get? q = some (bndO "builtin_function_or_method" "list.pop" a))
    (h : codeAny (model PG w) A (.builtin "list.pop" ⟨[.ref a], []⟩) R s) : codeAny (model PG w) A (.call (.ref q) ⟨[], []⟩) R s := by
  refine codeAny_of_tree ?_
  show wpAny _ A.in1 (callAny (.ref q) ⟨[], []⟩) _ _ _
  unfold callAny
  refine wpAny_bind (wpAny_load hq ?_)
  show wpAny _ _ (checkBoundCall "list.pop" ⟨[.ref a], []⟩ >>= fun _ => again (.builtin "list.pop" ⟨[.ref a], []⟩)) _ _ _
  obtain ⟨n, tk, tn, n', I⟩ := x.inst
  obtain ⟨hh, g, dr, t, os⟩ := s
  have L0 := I.type (M := model PG w)
  have hm : Looks (model PG w) hh (isInstance (.ref a) (.type "module")) false := I.type.andThen (looks_mroIn X (by kernel_rfl))
  have ht : Looks (model PG w) hh (isType (.ref a)) false := (Looks.ld (part := none) I.at_).andThen .now
  obtain ⟨cd, hc, hcq⟩ : ∃ cd, clsIn (KF w) 94 = some cd ∧ cd.qualname = Str.ofString "_Accumulator" := ⟨_, rfl, by kernel_rfl⟩
  have hcl := looks_clsIn (M := model PG w) X hc
  have htt : Looks (model PG w) hh (typeOf (.ref 94)) (.type "type") := looks_typeIn X (by kernel_rfl)
  refine wpAny_bind ?_
  unfold checkBoundCall
  have hk : builtinKind "list.pop" = some .method := by decide +kernel
  obtain ⟨sig, hsig⟩ : ∃ sig, Manifest.signature? "list.pop" = some sig := Option.isSome_iff_exists.mp (by decide +kernel)
  have hck : Bind.checkArgs "list.pop" { sig with full := "_Accumulator.pop" } ⟨[.ref a], []⟩ = pure () := by
    have h0 : (match Manifest.signature? "list.pop" with | some sig => Bind.checkArgs "list.pop" { sig with full := "_Accumulator.pop" } ⟨[.ref a], []⟩ | none => pure ()) = pure () := by kernel_rfl
    rw [hsig] at h0
    exact h0
  have hckA : ∀ (full : String), full = "_Accumulator.pop" → ∀ (A : Around) (Q : Unit → Shared → Prop) (E : Value → Shared → Prop) (s : Shared), Q () s → wpAny (model PG w) A (Bind.checkArgs "list.pop" { sig with full := full } ⟨[.ref a], []⟩) Q E s := by
    intro full hf A Q E s q
    subst hf
    rw [hck]
    exact wpAny_pure q
  simp only [hk, hsig]
  repeat (first | (with_reducible refine hckA _ (by rw [hcq]; decide +kernel) _ _ _ _ ?_) | lk)
  all_goals exact ⟨rfl, h⟩
end
end Sup
end Mine
end

section
open PySem PySem.W PyProof.Rows PySem.Calls Builtin Builtin.ObjectAttr
set_option maxRecDepth 100000
set_option maxHeartbeats 4000000
namespace Mine
namespace Sup
theorem instA {w h a d vs k} (x : Acc w h a d vs k) : ∃ ox od, InstAt h a ox 94 od := by
  obtain ⟨n, tk, tn, n', I⟩ := x.inst
  exact ⟨_, _, I⟩
section
variable {w : World} {A : Around} {E : Value → Shared → Prop} {s : Shared} {a d : Addr} {vs : List Value} {k : Int} {h₀ : Heap} {L : Addr} {m mg mb : Str → Option Value} {mean : ExcName → Option Value}
theorem sup_eval {f cda : Addr} {body : List Stmt} {q : Str} {scope : Scope} {p0 p1 apos pos : Pos} {name : Str} {pl : Sem Bool} {id gid B T : String} {fd : FuncData} {vs2 : Array Value} {tf : Tok} {oc ccl : Value} {od cdd : Option Addr} {osl ccs : Array (Option Value)} {ar : Arg} {news : List (Addr × Obj)} {Q : Value → Shared → Prop}
    (F : Fr h₀ L s.heap m) (X₀ : (KF w).In h₀) (N : News h₀ L s.heap news) (TT : Top topProg LO mean mg mb h₀) (hI : ∀ h', (∀ b o, h₀.get? b = some o → h'.get? b = some o) → News h₀ L h' news → ∃ ox odx, InstAt h' a ox 94 odx)
    (hf : (hd.heap_39 w.params).lookup f = some ⟨oc, od, .func fd, osl⟩) (hp : (fd.params.posonlyargs ++ fd.params.args).head? = some ar) (har : ar.arg = Str.ofString "self") (hv : m (Str.ofString "self") = some (.ref a))
    (hcode : (hd.heap_39 w.params).lookup cda = some ⟨ccl, cdd, .fields vs2, ccs⟩) (hvs : vs2[2]? = some (.str (PG.main.file : Str) tf))
    (hks : scope.names.lookup ("super" : Str) = some .globalImplicit) (hkc : scope.names.lookup ("__class__" : Str) = some .free) (hka : scope.names.lookup (Str.ofString "self") = some .local) (hk : scope.kind = .function)
    (hat : (name == ("__class__" : Str)) = false)
    (hfn : builtinOwn "list" name = some (.builtin id)) (hty : typeOf (.builtin id) = pure (.type T)) (hlk : typeLookup (.type T) "__get__" = pure (some (.builtin gid)))
    (hB : B = "method-wrapper" ∨ B = "builtin_function_or_method")
    (hcall : ∀ (A : Around) (E : Value → Shared → Prop) (Q : Value → Shared → Prop) (s : Shared), (KF w).In s.heap → Looks (model PG w) s.heap (isInstance (.ref a) (.type "list")) true → Q (.ref s.heap.objs.size) { s with heap := s.heap.push (bndO B id a) } → wpAny (model PG w) A (call (.builtin gid) [.builtin id, .ref a, .ref 94]) Q E s)
    (he : eval (.Call (.Attribute (.Call (.Name "super" p0) [] [] p1) name apos) [] [] pos) (ksEnv q scope L f (.ref cda) 18) = (do
      let ov ← attributeBase (.Call (.Name "super" p0) [] [] p1) name (ksEnv q scope L f (.ref cda) 18) (eval (.Call (.Name "super" p0) [] [] p1) (ksEnv q scope L f (.ref cda) 18))
      standAt apos.atName
      let (f', first) ← holding [ov] (getMethod ov name pl)
      callWith pos f' first (backTo pos (starEach [] (ksEnv q scope L f (.ref cda) 18))) []))
    (h : ∀ h' qq so tk, Fr h₀ L h' m → News h₀ L h' ((qq, bndO B id a) :: (so, ks_superObj 94 a 94) :: news) → wpAny (model PG w) A (call (.ref qq) []) Q E { s with heap := h', toks := tk }) :
    PySem.wpAt (model PG w) A (.func body (ksEnv q scope L f (.ref cda) 18)) (eval (.Call (.Attribute (.Call (.Name "super" p0) [] [] p1) name apos) [] [] pos) (ksEnv q scope L f (.ref cda) 18)) Q E s := by
  refine ks_wpAt_MethodCall (pl := pl) ?_ he
  obtain ⟨cl, cld, csl, hcell⟩ : ∃ cl cld csl, (KF w).lookup 18 = some ⟨cl, cld, .cell (some (.ref 94)), csl⟩ := ⟨_, _, _, rfl⟩
  obtain ⟨cdD, hD⟩ : ∃ cd, clsIn (KF w) 94 = some cd := ⟨_, rfl⟩
  obtain ⟨ox, odx, I⟩ := hI _ F.keep N
  refine ks_node (K := KF w) (D := 94) (C := 94) F X₀ N TT hf hp (by rw [har]; exact hv) I hcode hvs (by rw [beq_self_eq_true]) hcell hD (by kernel_rfl) (by kernel_rfl) hat hks hkc (by rw [har]; exact hka) hk (by decide +kernel) (by decide +kernel) fun so h1 F1 N1 _ => ?_
  have X1 := X₀.keeps F1.keep
  obtain ⟨ox1, odx1, I1⟩ := hI h1 F1.keep fun p hp => N1 p (.tail _ hp)
  have il : Looks (model PG w) h1 (isInstance (.ref a) (.type "list")) true := I1.type.andThen (clsL X1).sub
  have hne : a ≠ 94 := ks_ne X1 I1 hD
  obtain ⟨hh, g, dr, t, os⟩ := s
  refine sup_meth (B := B) X1 (N1 _ (.head _)).1 hfn hty hlk hne hat (fun A E Q z => hcall A E Q _ X1 il z) ?_
  dsimp only
  have hb : (h1.push (bndO B id a)).get? h1.objs.size = some (bndO B id a) := Heap.get?_push_size _ rfl
  have F2 : Fr h₀ L (h1.push (bndO B id a)) m := F1.push _
  have N2 := N1.push F1 (bndO B id a)
  refine callWith_of (P := fun h' => h'.get? h1.objs.size = some (bndO B id a)) rfl (fun h' e => ⟨.machine, .inr (.inl rfl), ?_⟩) (evalArgs_nil3 ⟨hb, ?_⟩)
  · unfold keeperOf
    refine (Looks.ld (part := none) e).andThen ?_
    rcases hB with rfl | rfl <;> exact .now
  · exact h _ _ so _ F2 N2
end
end Sup
end Mine
end

section
open PySem PySem.W PyProof.Rows PySem.Calls Builtin Builtin.ObjectAttr
set_option maxRecDepth 100000
set_option maxHeartbeats 4000000
namespace Mine
abbrev TopV (mean : ExcName → Option Value) (mg mb : Str → Option Value) (h : Heap) : Prop := Top topProg LO mean mg mb h
section
variable {w : World} {A : Around} {s : Shared} {R : Result → Shared → Prop} {mg mb : Str → Option Value} {mean : ExcName → Option Value}
theorem enterS {name qual : Str} {params : Arguments} {body : List Stmt} {scope : Scope} {dV kV doc pm ct oc : Value} {an od : Option Addr} {osl : Array (Option Value)} {f cda : Addr} {args : Args} {binds : List (Str × Value)}
    (X : (KF w).In s.heap) (T : TopV mean mg mb s.heap) (hroom : A.depth < recursionLimit)
    (ho : (hd.heap_39 w.params).lookup f = some ⟨oc, od, .func (ksFn name qual params body scope dV kV doc pm an (.ref cda) ct 18), osl⟩) (hcd : codeIn (hd.heap_39 w.params) (.ref cda) qual = true)
    (hbind : BindsTo s (ksFn name qual params body scope dV kV doc pm an (.ref cda) ct 18) args binds) (hloc : ∀ y ∈ binds, scope.names.lookup y.1 = some .local)
    (h : ∀ h₁, Fr s.heap s.heap.objs.size h₁ (fun y => binds.reverse.lookup y) →
      PySem.wpAt (model PG w) (A.deeper (ksEnv qual scope s.heap.objs.size f (.ref cda) 18)) (.func body (ksEnv qual scope s.heap.objs.size f (.ref cda) 18)) (execs body (ksEnv qual scope s.heap.objs.size f (.ref cda) 18))
        (fun fl s' => R (.ok (.ret (match fl with | .ret v => v | _ => .none))) s')
        (fun e s' => wpAny (model PG w) (A.deeper (ksEnv qual scope s.heap.objs.size f (.ref cda) 18)) (leaving (ksEnv qual scope s.heap.objs.size f (.ref cda) 18) e) (fun _ s'' => R (.error e) s'') (fun e' s'' => R (.error e') s'') s')
        { s with heap := h₁, toks := s.toks + binds.length })
    (hcell : ∀ x ∈ scope.names, x.2 ≠ .cell) (hco : scope.isCoroutine = false) (hgen : scope.isGenerator = false) (hk : scope.kind = .function) : codeAny (model PG w) A (.call (.ref f) args) R s :=
  ks_codeAny_call_defAt (fd := ksFn name qual params body scope dV kV doc pm an (.ref cda) ct 18) (body := body) (binds := binds) hroom (X _ _ ho) rfl T.nolimit (codeRec_of X hcd) rfl hbind hcell hloc
    (fun h₁ hns hk₁ => h h₁ ⟨hns, hk₁, Nat.le_refl _⟩) hco hgen hk
theorem enterP {name qual : Str} {params : Arguments} {body : List Stmt} {scope : Scope} {dV kV doc pm ct oc cdv : Value} {an od : Option Addr} {osl : Array (Option Value)} {f : Addr} {args : Args} {binds : List (Str × Value)}
    (X : (KF w).In s.heap) (T : TopV mean mg mb s.heap) (hroom : A.depth < recursionLimit)
    (ho : (hd.heap_39 w.params).lookup f = some ⟨oc, od, .func (fnOf name qual params body scope dV kV doc pm an cdv ct), osl⟩) (hcd : codeIn (hd.heap_39 w.params) cdv qual = true)
    (hbind : BindsTo s (fnOf name qual params body scope dV kV doc pm an cdv ct) args binds) (hloc : ∀ y ∈ binds, scope.names.lookup y.1 = some .local)
    (h : ∀ h₁, Fr s.heap s.heap.objs.size h₁ (fun y => binds.reverse.lookup y) →
      wpAny (model PG w) (A.deeper (envOf qual scope s.heap.objs.size f cdv)) (execs body (envOf qual scope s.heap.objs.size f cdv))
        (fun fl s' => R (.ok (.ret (match fl with | .ret v => v | _ => .none))) s')
        (fun e s' => wpAny (model PG w) (A.deeper (envOf qual scope s.heap.objs.size f cdv)) (leaving (envOf qual scope s.heap.objs.size f cdv) e) (fun _ s'' => R (.error e) s'') (fun e' s'' => R (.error e') s'') s')
        { s with heap := h₁, toks := s.toks + binds.length })
    (hcell : ∀ x ∈ scope.names, x.2 ≠ .cell) (hco : scope.isCoroutine = false) (hgen : scope.isGenerator = false) (hk : scope.kind = .function) : codeAny (model PG w) A (.call (.ref f) args) R s :=
  codeAny_call_def (fd := fnOf name qual params body scope dV kV doc pm an cdv ct) (body := body) (binds := binds) hroom (X _ _ ho) rfl T.nolimit (codeRec_of X hcd) rfl hbind hcell hloc
    (fun h₁ hns hk₁ => h h₁ ⟨hns, hk₁, Nat.le_refl _⟩) hco hgen hk
end
end Mine
end

section
open PySem PySem.W PyProof.Rows PySem.Calls Builtin Builtin.ObjectAttr
set_option maxRecDepth 100000
set_option maxHeartbeats 4000000
namespace Mine
section
variable {w : World} {A : Around} {s : Shared} {a d : Addr} {vs : List Value} {k : Int} {R : Result → Shared → Prop} {mg mb : Str → Option Value} {mean : ExcName → Option Value}
theorem part_count_code (X : (hd.heap_39 w.params).In s.heap) (T : TopV mean mg mb s.heap) (hroom : A.depth < recursionLimit) (x : Acc w s.heap a d vs k)
    (h : ∀ h' t tk, (∀ b o, s.heap.get? b = some o → h'.get? b = some o) → R (.ok (.ret (.int vs.length t))) { s with heap := h', toks := tk }) :
    codeAny (model PySem.Challenge.rw_nb0052_01.row.prog w) A (.call (.ref 91) ⟨[.ref a], []⟩) R s := by
  revert X; k_fill; intro X
  k_dflt (refine' enterS X T hroom ?k6 ?k7 ?k9 ?kB ?_ ?c1 ?c2 ?c3 ?c4; (case k6 => k_is); (case k7 => k_is); (case k9 => exact BindsTo.of_eq rfl); (case kB => exact locs rfl); (case c1 => decide); (case c2 => exact rfl); (case c3 => exact rfl); (case c4 => exact rfl))
  intro h₁ F
  refine ks_wpAt_execs_cons (ks_wpAt_Return_some ?_)
  have hI : ∀ h', (∀ b o, s.heap.get? b = some o → h'.get? b = some o) → News s.heap s.heap.objs.size h' [] → ∃ ox odx, InstAt h' a ox 94 odx := fun h' hk _ => by
    obtain ⟨n, tk, tn, n', I⟩ := x.inst
    exact ⟨_, some _, ⟨hk _ _ I.at_, I.cls, I.no, hk _ _ I.dict⟩⟩
  k_dflt (refine' Sup.sup_eval (B := "method-wrapper") F X News.nil T hI ?hf ?hp ?har ?hv ?hcode ?hvs ?hks ?hkc ?hka ?hk ?hat ?hfn Sup.type_len Sup.slot_wg.lookup (.inl rfl) ?hcall ?he ?_; (case hf => k_is); (case hp => exact rfl); (case har => exact rfl); (case hv => exact rfl); (case hcode => k_is); (case hvs => exact rfl); (case hks => exact rfl); (case hkc => exact rfl); (case hka => exact rfl); (case hk => exact rfl); (case hat => decide); (case hfn => (rw [builtinOwn_eq_fast]; kernel_rfl)); (case he => exact rfl))
  case hcall => exact fun A E Q s xx il z => by obtain ⟨hh, g, dr, t, os⟩ := s; exact Sup.get_len il z
  intro h2 qq so tk F2 N2
  refine wpAny_call (Sup.call_wrap (N2 _ (.head _)).1 (by decide +kernel) (PySem.F.args_list_len_1 _) (Code.quiet_builtin _ (by decide +kernel)) ?_)
  have x2 : Acc w h2 a d vs k := by
    obtain ⟨⟨n, e1⟩, ⟨tk, tn, n', e2⟩, e3⟩ := x
    exact ⟨⟨n, F2.keep _ _ e1⟩, ⟨tk, tn, n', F2.keep _ _ e2⟩, e3⟩
  refine acc_llen x2 fun t k' => ?_
  exact h h2 t k' F2.keep
end
end Mine
end

section
open PySem PySem.W PyProof.Rows PySem.Calls Builtin Builtin.ObjectAttr
set_option maxRecDepth 100000
set_option maxHeartbeats 4000000
namespace Mine
structure Gr (w : World) (mean : ExcName → Option Value) (mg mb : Str → Option Value) (h₀ h : Heap) : Prop where
  X : (hd.heap_39 w.params).In h₀
  T : TopV mean mg mb h₀
  keep : ∀ b o, h₀.get? b = some o → h.get? b = some o
section
variable {w : World} {A : Around} {s : Shared} {a d : Addr} {vs : List Value} {k : Int} {R : Result → Shared → Prop} {mg mb : Str → Option Value} {mean : ExcName → Option Value} {h₀ : Heap}
theorem Gr.hide {h : Heap} (g : Gr w mean mg mb h₀ h) (l : List Addr) (hn : ∀ b ∈ l, h₀.get? b = none) : Gr w mean mg mb (hideAll h l) h := by
  have st : ∀ b o, h₀.get? b = some o → (hideAll h l).get? b = some o := fun b o e => hideAll_get l (g.keep b o e) fun q => by rw [hn b q] at e; cases e
  exact ⟨g.X.keeps st, g.T.keeps st, fun b o e => of_hideAll l e⟩
theorem Gr.to {h h' : Heap} (g : Gr w mean mg mb h₀ h) (hk : ∀ b o, h₀.get? b = some o → h'.get? b = some o) : Gr w mean mg mb h₀ h' := ⟨g.X, g.T, hk⟩
theorem fr_hide {h h₁ : Heap} {L : Addr} {m : Str → Option Value} (l : List Addr) (F : Fr h L h₁ m) : Fr (hideAll h l) L h₁ m :=
  ⟨F.ns, fun b o e => F.keep b o (of_hideAll l e), by rw [hideAll_size]; exact F.above⟩

theorem init_code {args : List Value} {n : Nat} {tk : Tok} (g : Gr w mean mg mb h₀ s.heap) (hroom : A.depth < recursionLimit) (na : h₀.get? a = none) (nd : h₀.get? d = none) (had : a ≠ d)
    (ho : s.heap.get? a = some (accObj d [] n)) (hdd : s.heap.get? d = some emptyDict) (hargs : args = [.ref a, .int k tk] ∨ (args = [.ref a] ∧ k = 0))
    (h : ∀ h' tk, (∀ b o, b ≠ a → b ≠ d → s.heap.get? b = some o → h'.get? b = some o) → Acc w h' a d [] k → R (.ok (.ret .none)) { s with heap := h', toks := tk }) :
    codeAny (model PySem.Challenge.rw_nb0052_01.row.prog w) A (.call (.ref 31) ⟨args, []⟩) R s := by
  have X := g.X.keeps g.keep
  have T := g.T.keeps g.keep
  have gh := g.hide [a, d] (by intro b hb; simp only [List.mem_cons, List.not_mem_nil, or_false] at hb; rcases hb with rfl | rfl <;> assumption)
  revert X; k_fill; intro X
  rcases hargs with rfl | ⟨rfl, hk0⟩
  all_goals
    k_dflt (refine' enterS X T hroom ?k6 ?k7 ?k9 ?kB ?_ ?c1 ?c2 ?c3 ?c4; (case k6 => k_is); (case k7 => k_is); (case k9 => exact binds_K X rfl (by k_is) rfl rfl rfl); (case kB => exact locs rfl); (case c1 => decide); (case c2 => exact rfl); (case c3 => exact rfl); (case c4 => exact rfl))
    intro h₁ F
    have F1 := fr_hide [a, d] F
    refine ks_wpAt_execs_cons (ks_wpAt_Assign_Attr (wpAt_of_wpAny ?_))
    refine wpAny_Name (wpAny_loadName_local rfl rfl F1.ns rfl ?_)
    refine wpAny_Name (wpAny_loadName_local rfl rfl F1.ns rfl ?_)
    refine acc_setattr (X.keeps F.keep) (F.keep _ _ ho) (F.keep _ _ hdd) (.inl rfl) fun h2 tt k2 d2 z2 => ?_
    obtain ⟨ob, eb, d2⟩ : ∃ ob, (∃ tk tn n, ob = szDict w k tk tn n) ∧ h2.get? d = some ob := by obtain ⟨tn, nn, d2⟩ := d2; exact ⟨_, ⟨_, tn, nn, by first | rfl | (rw [hk0])⟩, d2⟩
    have a2 := k2 a _ had (F.keep _ _ ho)
    have F2 : Fr (hideAll s.heap [a, d]) s.heap.objs.size h2 _ := fr_but F1 (Nat.ne_of_lt (Heap.lt_size hdd)) (hideAll_none _ (by simp)) k2
    have N2 : News (hideAll s.heap [a, d]) s.heap.objs.size h2 [(a, accObj d [] n), (d, ob)] := by
      intro p hp
      simp only [List.mem_cons, List.not_mem_nil, or_false] at hp
      rcases hp with rfl | rfl
      · exact ⟨a2, Nat.ne_of_lt (Heap.lt_size ho), hideAll_none _ (by simp)⟩
      · exact ⟨d2, Nat.ne_of_lt (Heap.lt_size hdd), hideAll_none _ (by simp)⟩
    dsimp only
    refine ks_wpAt_execs_cons (ks_wpAt_Expr_any ?_)
    have hI : ∀ h', (∀ b o, (hideAll s.heap [a, d]).get? b = some o → h'.get? b = some o) → News (hideAll s.heap [a, d]) s.heap.objs.size h' [(a, accObj d [] n), (d, ob)] → ∃ ox odx, InstAt h' a ox 94 odx := fun h' _ N => ⟨_, some _, (N _ (.head _)).1, rfl, rfl, (N _ (.tail _ (.head _))).1⟩
    k_dflt (refine' Sup.sup_eval (B := "method-wrapper") F2 gh.X N2 gh.T hI ?hf ?hp ?har ?hv ?hcode ?hvs ?hks ?hkc ?hka ?hk ?hat ?hfn Sup.type_init Sup.slot_wg.lookup (.inl rfl) ?hcall ?he ?_; (case hf => k_is); (case hp => exact rfl); (case har => exact rfl); (case hv => exact rfl); (case hcode => k_is); (case hvs => exact rfl); (case hks => exact rfl); (case hkc => exact rfl); (case hka => exact rfl); (case hk => exact rfl); (case hat => decide); (case hfn => (rw [builtinOwn_eq_fast]; kernel_rfl)); (case he => exact rfl))
    case hcall => exact fun A E Q s xx il z => by obtain ⟨hh, g, dr, t, os⟩ := s; exact Sup.get_init il z
    intro h3 qq so tk3 F3 N3
    have e3 := (N3 _ (.tail _ (.tail _ (.head _)))).1
    have d3 := (N3 _ (.tail _ (.tail _ (.tail _ (.head _))))).1
    refine wpAny_call (Sup.call_wrap (N3 _ (.head _)).1 (by decide +kernel) (PySem.F.args_list_init_1 _) (Code.quiet_builtin _ (by decide +kernel)) ?_)
    refine acc_linit (vs := []) e3 (Nat.zero_le _) fun h4 k4 a4 z4 => ?_
    dsimp only
    refine wpAt_of_wpAny (wpAny_execs_nil ?_)
    refine h h4 _ (fun b o hba hbd e => k4 b o hba (F3.keep b o (hideAll_get _ e (by simp [hba, hbd])))) ⟨a4, (by obtain ⟨t1, t2, t3, eb⟩ := eb; exact ⟨t1, t2, t3, eb ▸ k4 d _ (Ne.symm had) d3⟩), Nat.zero_le _⟩
end
end Mine
end

section
open PySem PySem.W PyProof.Rows PySem.Calls Builtin Builtin.ObjectAttr
set_option maxRecDepth 100000
set_option maxHeartbeats 4000000
namespace Mine
section
variable {w : World} {A : Around} {s : Shared} {a d : Addr} {vs : List Value} {k : Int} {R : Result → Shared → Prop} {mg mb : Str → Option Value} {mean : ExcName → Option Value} {h₀ : Heap}
theorem create_code {rest : List Value} {tk : Tok} (g : Gr w mean mg mb h₀ s.heap) (hroom : A.depth + 2 < recursionLimit) (hargs : rest = [.int k tk] ∨ (rest = [] ∧ k = 0))
    (h : ∀ a d h' tk, (∀ b o, s.heap.get? b = some o → h'.get? b = some o) → s.heap.objs.size ≤ a → s.heap.objs.size ≤ d → a ≠ d → Acc w h' a d [] k → R (.ok (.ret (.ref a))) { s with heap := h', toks := tk }) :
    codeAny (model PySem.Challenge.rw_nb0052_01.row.prog w) A (.call (.ref 94) ⟨rest, []⟩) R s := by
  obtain ⟨hh, gg, dr, t, os⟩ := s
  have X : (KF w).In hh := g.X.keeps g.keep
  refine acc_make X ?_
  have k1 : ∀ b o, hh.get? b = some o → ((hh.push emptyDict).push (accObj hh.objs.size [] 0)).get? b = some o := fun b o e => Heap.get?_push_of_some _ (Heap.get?_push_of_some _ e)
  have e1 : ((hh.push emptyDict).push (accObj hh.objs.size [] 0)).get? (hh.objs.size + 1) = some (accObj hh.objs.size [] 0) := by heap_get
  have e2 : ((hh.push emptyDict).push (accObj hh.objs.size [] 0)).get? hh.objs.size = some emptyDict := by heap_get
  have hw : ((Code.builtin "type.__call__" ⟨.ref 94 :: rest, []⟩) : Code).weight ≤ 2 := by
    have : ((Code.builtin "type.__call__" ⟨.ref 94 :: rest, []⟩) : Code).weight = 1 := by kernel_rfl
    omega
  refine init_code (h₀ := hh) (k := k) (tk := tk) (d := hh.objs.size) (n := 0) ⟨X, g.T.keeps g.keep, k1⟩ (by show A.depth + _ < _; omega) ?_ ?_ (Nat.ne_of_gt (Nat.lt_succ_self _)) e1 e2 ?_ fun h' tk' k2 x2 => ⟨rfl, ?_⟩
  · cases q : hh.get? (hh.objs.size + 1) with
    | none => rfl
    | some o => exact absurd (Heap.lt_size q) (Nat.not_lt.mpr (Nat.le_succ _))
  · cases q : hh.get? hh.objs.size with
    | none => rfl
    | some o => exact absurd (Heap.lt_size q) (Nat.lt_irrefl _)
  · rcases hargs with rfl | ⟨rfl, rfl⟩
    · exact .inl rfl
    · exact .inr ⟨rfl, rfl⟩
  · exact h _ _ h' tk' (fun b o e => k2 b o (Nat.ne_of_lt (Nat.lt_succ_of_lt (Heap.lt_size e))) (Nat.ne_of_lt (Heap.lt_size e)) (k1 b o e)) (Nat.le_succ _) (Nat.le_refl _) (Nat.ne_of_gt (Nat.lt_succ_self _)) x2

theorem acc_of {G h : Heap} {L : Addr} {m : Str → Option Value} {news : List (Addr × Obj)} {n n0 : Nat} {tk tn : Tok} (F : Fr G L h m) (N : News G L h news) (hm : (a, accObj d vs n) ∈ news) (hd : G.get? d = some (szDict w k tk tn n0)) (hs : vs.length ≤ 1000) : Acc w h a d vs k :=
  ⟨⟨n, (N _ hm).1⟩, ⟨tk, tn, n0, F.keep _ _ hd⟩, hs⟩
theorem appL_meth {G : Heap} {L : Addr} {m : Str → Option Value} {news : List (Addr × Obj)} {n n0 : Nat} {tk tn : Tok} {E : Value → Shared → Prop} {pl : Sem Bool} {Q : Value × List Value → Shared → Prop} (F : Fr G L s.heap m) (X : (hd.heap_39 w.params).In G) (N : News G L s.heap news) (hm : (a, accObj d vs n) ∈ news) (hd : G.get? d = some (szDict w k tk tn n0)) (hs : vs.length < 1000)
    (h : Q (.builtin "list.append", [.ref a]) s) : wpAny (model PySem.Challenge.rw_nb0052_01.row.prog w) A (getMethod (.ref a) (Str.ofString "append") pl) Q E s :=
  acc_meth (T := "method_descriptor") (X.keeps F.keep) (acc_of F N hm hd (Nat.le_of_lt hs)) (by kernel_rfl) (by kernel_rfl) (by decide) (by decide) h
theorem appL_call {G : Heap} {L t : Addr} {m : Str → Option Value} {ot : Obj} {n n0 : Nat} {tk tn : Tok} {E : Value → Shared → Prop} {Q : Value → Shared → Prop} (F : Fr G L s.heap m) (X : (hd.heap_39 w.params).In G) (N : News G L s.heap [(t, ot), (a, accObj d vs n)]) (hd : G.get? d = some (szDict w k tk tn n0)) (hs : vs.length < 1000) (hta : t ≠ a)
    (h : ∀ h' n', Fr G L h' m → News G L h' [(t, ot), (a, accObj d (vs ++ [.ref t]) n')] → Q .none { s with heap := h' }) : wpAny (model PySem.Challenge.rw_nb0052_01.row.prog w) A (call (.builtin "list.append") [.ref a, .ref t]) Q E s := by
  have Na := N _ (.tail _ (.head _))
  refine wpAny_call (acc_append (X.keeps F.keep) (acc_of F N (.tail _ (.head _)) hd (Nat.le_of_lt hs)) hs fun h' k' e' _ => ?_)
  obtain ⟨n', e'⟩ := e'
  refine h h' n' (fr_but F Na.2.1 Na.2.2 k') fun p hp => ?_
  simp only [List.mem_cons, List.not_mem_nil, or_false] at hp
  rcases hp with rfl | rfl
  · exact ⟨k' _ _ hta (N _ (.head _)).1, (N _ (.head _)).2⟩
  · exact ⟨e', Na.2⟩
local macro_rules | `(tactic| walk_at "getMethod ref") => `(tactic| (k_here; refine stop1 ?_))
local macro_rules | `(tactic| walk_at "call builtin:list.append") => `(tactic| (k_here; refine stop1 ?_))
theorem push_code {x y : Str} {tx ty : Tok} (g : Gr w mean mg mb h₀ s.heap) (hroom : A.depth < recursionLimit) (na : h₀.get? a = none) (nd : h₀.get? d = none) (had : a ≠ d) (xa : Acc w s.heap a d vs k) (hs : vs.length < 1000)
    (h : ∀ h' t tk, (∀ b o, b ≠ a → s.heap.get? b = some o → h'.get? b = some o) → s.heap.get? t = none → h'.get? t = some { cls := .type "tuple", data := .seq #[.str x tx, .str y ty] } → Acc w h' a d (vs ++ [.ref t]) k → R (.ok (.ret .none)) { s with heap := h', toks := tk }) :
    codeAny (model PySem.Challenge.rw_nb0052_01.row.prog w) A (.call (.ref 38) ⟨[.ref a, .str x tx, .str y ty], []⟩) R s := by
  have X := g.X.keeps g.keep
  have T := g.T.keeps g.keep
  have gh := g.hide [a] (by intro b hb; simp only [List.mem_cons, List.not_mem_nil, or_false] at hb; rcases hb with rfl; assumption)
  revert X; k_fill; intro X
  k_dflt (refine' enterP X T hroom ?k6 ?k7 ?k9 ?kB ?_ ?c1 ?c2 ?c3 ?c4; (case k6 => k_is); (case k7 => k_is); (case k9 => exact BindsTo.of_eq rfl); (case kB => exact locs rfl); (case c1 => decide); (case c2 => exact rfl); (case c3 => exact rfl); (case c4 => exact rfl))
  intro h₁ F
  have F1 := fr_hide [a] F
  obtain ⟨⟨n, ho⟩, ⟨tk0, tn0, n0, hdd⟩, hsm⟩ := id xa
  have N1 : News (hideAll s.heap [a]) s.heap.objs.size h₁ [(a, accObj d vs n)] := by
    intro p hp
    simp only [List.mem_cons, List.not_mem_nil, or_false] at hp
    rcases hp with rfl
    exact ⟨F.keep _ _ ho, Nat.ne_of_lt (Heap.lt_size ho), hideAll_none _ (by simp)⟩
  have GX := gh.X
  have GT := gh.T
  have hdG : (hideAll s.heap [a]).get? d = some (szDict w k tk0 tn0 n0) := hideAll_get _ hdd (by simp [Ne.symm had])
  clear F
  k_steps
  refine Stop.mk (appL_meth (by assumption) (by assumption) (by assumption) (.head _) (by assumption) (by assumption) ?_)
  k_steps
  refine Stop.mk (appL_call (by assumption) (by assumption) (by assumption) (by assumption) (by assumption) (Nat.ne_of_gt (by assumption)) ?_)
  intro h' n' F' N'
  k_steps
  have NN := ‹News (hideAll s.heap [a]) s.heap.objs.size _ [_, (a, accObj d (vs ++ [_]) _)]›
  have FF := ‹Fr (hideAll s.heap [a]) s.heap.objs.size _ _›
  have Nt := NN _ (.head _)
  have Na := NN _ (.tail _ (.head _))
  refine h _ _ _ (fun b o hb e => FF.keep b o (hideAll_get _ e (by simp [hb]))) ?_ Nt.1 ⟨⟨_, Na.1⟩, ⟨_, _, _, FF.keep _ _ hdG⟩, by simp; omega⟩
  cases q : s.heap.get? _ with
  | none => rfl
  | some o => have := hideAll_get [a] q (by simp; exact Nat.ne_of_gt (by assumption)); rw [Nt.2.2] at this; cases this
end
end Mine
end

section
open PySem PySem.W PyProof.Rows PySem.Calls Builtin Builtin.ObjectAttr
set_option maxRecDepth 100000
set_option maxHeartbeats 4000000
namespace Mine
section
variable {w : World} {A : Around} {E : Value → Shared → Prop} {s : Shared} {a d : Addr} {vs : List Value} {k : Int}
theorem acc_seqKey {h : Heap} {kx : Value} {nm : Str} (X : (KF w).In h) (x : Acc w h a d vs k) : Looks (model PG w) h (sequenceKey (.ref a) kx nm) kx := by
  obtain ⟨n, tk, tn, n', I⟩ := x.inst
  have L0 := I.type (M := model PG w)
  have hs : ∀ T, mroIn (KF w) 94 (.type T) = some false → Looks (model PG w) h (isSubtype (.ref 94) (.type T)) false := fun T e => looks_mroIn X e
  unfold sequenceKey
  refine L0.andThen ?_
  dsimp only
  refine Looks.andThen (a := false) ((hs "collections.deque" (by kernel_rfl)).andThen .now) ?_
  exact .now
theorem acc_special {f : String} {name : Str} {args : List Value} {T : String} {Q : Option Value → Shared → Prop} (X : (KF w).In s.heap) (x : Acc w s.heap a d vs k) (hf : findIn (KF w) (.ref 94) name = some (some (.builtin f))) (hb : Slot "list" name f)
    (h : wpAny (model PG w) A (call (.builtin f) (.ref a :: args)) (fun v => Q (some v)) E s) : wpAny (model PG w) A (callSpecial? (.ref a) name args) Q E s := by
  obtain ⟨n, tk, tn, n', I⟩ := x.inst
  unfold callSpecial? specialOf
  refine wpAny_bind (wpAny_bind (I.type.here ((looks_findIn X hf).here (wpAny_holding ?_))))
  rw [hb.bind]
  refine wpAny_bind (wpAny_pure (wpAny_bind (wpAny_mono h (fun v s' z => wpAny_pure z) fun _ _ z => z)))
theorem slice_sub {M : Model} {h : Heap} {sl : Addr} {vl vu : Value} (hs : h.IsSliceOf sl vl vu .none) : Looks M h (typeOf (.ref sl)) (.type "slice") ∧ Looks M h (Builtin.List.listSubscript? (.ref sl)) none := by
  obtain ⟨⟨c, dd, dt, ss⟩, e, hc, _⟩ := hs
  change c = _ at hc
  subst hc
  have t1 : Looks M h (typeOf (.ref sl)) (.type "slice") := (Looks.ld e).andThen .now
  have t2 : Looks M h (typeLookup (.type "slice") (Str.ofString "__index__")) none := Looks.of_pure slice_no_index
  exact ⟨t1, (t1.andThen t2).andThen .now⟩
theorem slice_parts {M : Model} {h : Heap} {sl : Addr} {vl vu : Value} {lo hi : Option Int} (hs : h.IsSliceOf sl vl vu .none) (pl : IsPart vl lo) (pu : IsPart vu hi) : Looks M h (Builtin.List.listSliceParts (.ref sl)) (rawPart lo, rawPart hi, rawPart none) := by
  obtain ⟨⟨c, dd, dt, ss⟩, e, _, hd⟩ := hs
  change dt = _ at hd
  subst hd
  intro A Q E s kp q
  have e := kp _ _ e
  obtain ⟨hp, g, dr, t, os⟩ := s
  cases pl <;> cases pu
  all_goals
    unfold Builtin.List.listSliceParts
    repeat lk
    first | exact q | trace_state
theorem acc_getslice {sl : Addr} {vl vu : Value} {lo hi : Option Int} {Q : Value → Shared → Prop} (X : (KF w).In s.heap) (x : Acc w s.heap a d vs k) (hs : s.heap.IsSliceOf sl vl vu .none) (pl : IsPart vl lo) (pu : IsPart vu hi)
    (h : Q (.ref s.heap.objs.size) { s with heap := s.heap.push { cls := .type "list", data := .seq (slicePick vs.toArray lo hi none) } }) : wpAny (model PG w) A (getItem (.ref a) (.ref sl)) Q E s := by
  have il := acc_isList (M := model PG w) X x
  have fits : (slicePick vs.toArray lo hi none).size ≤ sizeLine := Nat.le_trans (slicePick_size_le vs.toArray lo hi none) (le_line (Nat.le_trans (show vs.toArray.size ≤ 1000 by rw [List.size_toArray]; exact x.small) (by decide)))
  have sk := acc_seqKey (kx := .ref sl) (nm := Str.ofString "__getitem__") X x
  unfold getItem
  refine wpAny_holding (wpAny_bind (sk.here (wpAny_bind (acc_special (T := "list") X x (by kernel_rfl) slot_list_getitem (wpAny_call ?_)))))
  refine codeAny_call_builtin slot_list_getitem.plain entry_list_getitem (check_meth (n := "__getitem__") (by decide +kernel) (by decide +kernel) il (args_list_getitem _ _) ?_)
  obtain ⟨⟨n, ho⟩, _, _⟩ := x
  obtain ⟨t1, t2⟩ := slice_sub (M := model PG w) hs
  have t3 := slice_parts (M := model PG w) hs pl pu
  obtain ⟨hp, g, dr, t, os⟩ := s
  unfold Builtin.«list.__getitem__»
  repeat first
    | with_reducible refine wpAny_of_eq (sliceIndices_raw lo hi none vs.toArray.size (by simp)) ?_
    | with_reducible refine wpAny_newObj_type ?_ ?_
    | lk
  · exact h
  · exact fits
abbrev cutF (lo : Option Int) (m : Nat) (us : List Value) (xs : Array Value) : Array Value :=
  xs.extract 0 ((lo.elim 0 (clipAt m) : Nat) : Int).toNat ++ us.toArray ++ xs.extract (max ((lo.elim 0 (clipAt m) : Nat) : Int) (m : Int)).toNat xs.size
theorem clip_min {lo : Option Int} (m : Nat) (hcut : ∀ i, lo = some i → 0 ≤ i) : lo.elim 0 (clipAt m) = min (lo.elim 0 Int.toNat) m := by
  cases lo with
  | none => exact (Nat.zero_min m).symm
  | some i =>
    obtain ⟨k, rfl⟩ := Int.eq_ofNat_of_zero_le (hcut i rfl)
    exact clipAt_nat m k
theorem cut_is {lo : Option Int} (vs us : List Value) (hcut : ∀ i, lo = some i → 0 ≤ i) : cutF lo vs.toArray.size us vs.toArray = (vs.take (lo.elim 0 Int.toNat) ++ us).toArray := by
  refine Array.ext' ?_
  simp only [cutF, List.size_toArray, clip_min vs.length hcut, ax_max, Int.toNat_natCast, Array.toList_append, Array.toList_extract, List.extract_eq_take_drop, Nat.sub_zero, List.drop_zero, Nat.sub_self, List.take_zero, List.append_nil]
  rw [← List.take_eq_take_min]
theorem acc_setslice {sl l : Addr} {vl : Value} {lo : Option Int} {us : List Value} {Q : Unit → Shared → Prop} (X : (KF w).In s.heap) (x : Acc w s.heap a d vs k) (hs : s.heap.IsSliceOf sl vl .none .none) (pl : IsPart vl lo) (hl : s.heap.IsList l us.toArray) (hla : l ≠ a) (hus : us.length ≤ 1000)
    (hcut : ∀ i, lo = some i → 0 ≤ i)
    (h : ∀ h', (∀ b o, b ≠ a → s.heap.get? b = some o → h'.get? b = some o) → (∃ n, h'.get? a = some (accObj d (vs.take (lo.elim 0 Int.toNat) ++ us) n)) → h'.objs.size = s.heap.objs.size → Q () { s with heap := h' }) : wpAny (model PG w) A (setItem (.ref a) (.ref sl) (.ref l)) Q E s := by
  have il := acc_isList (M := model PG w) X x
  have sk := acc_seqKey (kx := .ref sl) (nm := Str.ofString "__setitem__") X x
  unfold setItem
  refine wpAny_holding (wpAny_bind (sk.here (wpAny_bind (acc_special (T := "list") X x (by kernel_rfl) slot_list_setitem (wpAny_call ?_)))))
  refine codeAny_call_builtin slot_list_setitem.plain F.entry_list_setitem (@check_slot (model PG w) _ _ s "list.__setitem__" "list" "__setitem__" (.ref a) [.ref sl, .ref l] [] _ (by decide +kernel) (by decide +kernel) il (F.args_list_setitem_3 _ _ _) ?_)
  obtain ⟨⟨n, ho⟩, _, hsm⟩ := x
  have hn : vs.toArray.size = vs.length := List.size_toArray ..
  obtain ⟨t1, t2⟩ := slice_sub (M := model PG w) hs
  have t3 := slice_parts (M := model PG w) hs pl .none
  obtain ⟨⟨cl, dl, dt, sn⟩, hol, hcl, nl, hdl⟩ := hl
  change cl = _ at hcl; change dt = _ at hdl
  subst hcl hdl
  have sr : Builtin.List.listSameRef (.ref a) (.ref l) = false := beq_false_of_ne hla.symm
  have nw := cut_is vs us hcut
  obtain ⟨n', e'⟩ := acc_update ho (cutF lo vs.toArray.size us) _ nw
  obtain ⟨hp, g, dr, t, os⟩ := s
  unfold Builtin.«list.__setitem__»
  repeat first
    | with_reducible refine wpAny_of_eq (sliceIndices_raw lo none none vs.toArray.size (by simp)) ?_
    | rw [sr]
    | lk
  have room : Builtin.List.listTooLong (vs.toArray.size + us.toArray.size) = false := by
    rw [hn, List.size_toArray]
    exact decide_eq_false (Nat.not_lt.mpr (Nat.le_trans (Nat.add_le_add hsm hus) (by decide)))
  rw [room, if_neg (by decide), sliceBounds_plain]
  refine wpAny_bind (m := updateSeq a (cutF lo vs.toArray.size us)) (wpAny_updateSeq ho rfl (wpAny_bind (wpAny_letGo (wpAny_pure (wpAny_pure ?_)))) (hn ▸ le_line (Nat.le_trans hsm (by decide))) ?_)
  · exact h _ (fun b o hb e => (Heap.get?_update_ne _ _ _ _ hb).trans e) ⟨n', e'⟩ (Heap.SameBut.update ..).1
  · rw [nw, List.size_toArray, List.length_append, List.length_take]
    exact Nat.le_succ_of_le (le_line2 (Nat.le_trans (Nat.min_le_right _ _) hsm) hus)
end
end Mine
end

section
open PySem PySem.W PyProof.Rows PySem.Calls Builtin Builtin.ObjectAttr
set_option maxRecDepth 100000
set_option maxHeartbeats 4000000
namespace Mine
local macro_rules | `(tactic| walk_at "pad") => `(tactic| skip)
abbrev sliceO (v : Value) : Obj := { cls := .type "slice", data := .fields #[v, .none, .none] }
section
variable {w : World} {A : Around} {s : Shared} {a d : Addr} {vs : List Value} {k : Int} {R : Result → Shared → Prop} {mg mb : Str → Option Value} {mean : ExcName → Option Value} {h₀ : Heap} {E : Value → Shared → Prop}
theorem accL_get {G : Heap} {L : Addr} {m : Str → Option Value} {news : List (Addr × Obj)} {n n0 : Nat} {tk tn : Tok} {value e1 : Expr} {p : Pos} {i : Int} {u : Tok} {Q : Value → Shared → Prop} (F : Fr G L s.heap m) (X : (hd.heap_39 w.params).In G) (N : News G L s.heap news) (hm : (a, accObj d vs n) ∈ news) (hd : G.get? d = some (szDict w k tk tn n0)) (hs : vs.length ≤ 1000) (hi : 0 ≤ i)
    (h : ∀ D h', Fr G L h' m → News G L h' ((D, listOf (vs.drop i.toNat).toArray 0) :: news) → (∀ p ∈ news, p.1 < D) → Q (.ref D) { s with heap := h' }) :
    wpAny (model PySem.Challenge.rw_nb0052_01.row.prog w) A (subscriptTail value (Expr.Slice (some e1) none none p) (.ref a) (.ref s.heap.objs.size)) Q E { s with heap := s.heap.push (sliceO (.int i u)) } := by
  have k1 : ∀ b o, s.heap.get? b = some o → (s.heap.push (sliceO (.int i u))).get? b = some o := fun b o e => Heap.get?_push_of_some _ e
  have F1 := fr_grow F k1
  have N1 : News G L (s.heap.push (sliceO (.int i u))) news := by have := news_grow F N k1 [] (fun _ h => nim h); exact this
  have x := acc_of F1 N1 hm hd hs
  have XX := X.keeps F1.keep
  obtain ⟨n9, tk9, tn9, n9', I⟩ := x.inst
  unfold subscriptTail getitemInPython specialOf
  refine wpAny_bind (wpAny_bind (wpAny_bind (I.type.here ((looks_findIn XX (show findIn _ _ (Str.ofString "__getitem__") = some (some (.builtin "list.__getitem__")) from by kernel_rfl)).here ?_))))
  refine wpAny_pure ?_
  refine wpAny_bind ?_
  show wpAny _ _ (operate [.ref s.heap.objs.size, .ref a] (getItem (.ref a) (.ref s.heap.objs.size))) _ _ _
  refine wpAny_operating ?_
  refine acc_getslice (lo := some i) (hi := none) XX x ⟨_, Heap.get?_push_size _ rfl, rfl, rfl⟩ (.int i u) .none ?_
  refine wpAny_bind (wpAny_letTemporaryGo (wpAny_pure ?_))
  have e : slicePick vs.toArray (some i) none none = (vs.drop i.toNat).toArray := by
    have h2 := slicePick_from' vs.toArray i.toNat
    rw [Int.toNat_of_nonneg hi] at h2
    simpa using h2
  rw [e]
  refine h _ _ (F1.push _) (N1.push F1 _) fun p hp => ?_
  show p.1 < (s.heap.push _).objs.size
  rw [Heap.size_push]
  exact Nat.lt_succ_of_lt (Heap.lt_size (N p hp).1)
theorem accL_set {G : Heap} {L l D : Addr} {m : Str → Option Value} {oD : Obj} {us : List Value} {nl n n0 : Nat} {tk tn : Tok} {i : Int} {u : Tok} {Q : Unit → Shared → Prop} (F : Fr G L s.heap m) (X : (hd.heap_39 w.params).In G) (N : News G L s.heap [(l, listOf us.toArray nl), (D, oD), (a, accObj d vs n)]) (hd : G.get? d = some (szDict w k tk tn n0)) (hs : vs.length ≤ 1000) (hus : us.length ≤ 1000) (hlt : ((vs.take i.toNat) ++ us).length ≤ 1000) (hi : 0 ≤ i) (hla : l ≠ a) (hDa : D ≠ a)
    (h : ∀ h' n', Fr G L h' m → News G L h' [(l, listOf us.toArray nl), (D, oD), (a, accObj d (vs.take i.toNat ++ us) n')] → Q () { s with heap := h' }) :
    wpAny (model PySem.Challenge.rw_nb0052_01.row.prog w) A (setItem (.ref a) (.ref s.heap.objs.size) (.ref l)) Q E { s with heap := s.heap.push (sliceO (.int i u)) } := by
  have k1 : ∀ b o, s.heap.get? b = some o → (s.heap.push (sliceO (.int i u))).get? b = some o := fun b o e => Heap.get?_push_of_some _ e
  have F1 := fr_grow F k1
  have N1 : News G L (s.heap.push (sliceO (.int i u))) [(l, listOf us.toArray nl), (D, oD), (a, accObj d vs n)] := by have := news_grow F N k1 [] (fun _ h => nim h); exact this
  have x := acc_of F1 N1 (.tail _ (.tail _ (.head _))) hd hs
  have XX := X.keeps F1.keep
  have Na := N1 _ (.tail _ (.tail _ (.head _)))
  refine acc_setslice (lo := some i) XX x ⟨_, Heap.get?_push_size _ rfl, rfl, rfl⟩ (.int i u) ⟨_, (N1 _ (.head _)).1, rfl, _, rfl⟩ hla hus (by rintro j ⟨⟩; exact hi) fun h' k' e' _ => ?_
  obtain ⟨n', e'⟩ := e'
  refine h h' n' (fr_but F1 Na.2.1 Na.2.2 k') fun p hp => ?_
  simp only [List.mem_cons, List.not_mem_nil, or_false] at hp
  rcases hp with rfl | rfl | rfl
  · exact ⟨k' _ _ hla (N1 _ (.head _)).1, (N1 _ (.head _)).2⟩
  · exact ⟨k' _ _ hDa (N1 _ (.tail _ (.head _))).1, (N1 _ (.tail _ (.head _))).2⟩
  · exact ⟨e', Na.2⟩
local macro_rules | `(tactic| walk_at "subscriptTail") => `(tactic| (k_here; refine stop1 ?_))
local macro_rules | `(tactic| walk_at "setItem") => `(tactic| (k_here; refine stop1 ?_))
theorem pop_from_code {i : Int} {ti : Tok} (g : Gr w mean mg mb h₀ s.heap) (hroom : A.depth < recursionLimit) (na : h₀.get? a = none) (nd : h₀.get? d = none) (had : a ≠ d) (xa : Acc w s.heap a d vs k) (hi : 0 ≤ i) (hi2 : i ≤ 100)
    (h : ∀ h' D tk, (∀ b o, b ≠ a → s.heap.get? b = some o → h'.get? b = some o) → s.heap.get? D = none → h'.get? D = some (listOf (vs.drop i.toNat).toArray 0) → Acc w h' a d (vs.take i.toNat) k → R (.ok (.ret (.ref D))) { s with heap := h', toks := tk }) :
    codeAny (model PySem.Challenge.rw_nb0052_01.row.prog w) A (.call (.ref 46) ⟨[.ref a, .int i ti], []⟩) R s := by
  have X := g.X.keeps g.keep
  have T := g.T.keeps g.keep
  have gh := g.hide [a] (by intro b hb; simp only [List.mem_cons, List.not_mem_nil, or_false] at hb; rcases hb with rfl; assumption)
  revert X; k_fill; intro X
  k_dflt (refine' enterP X T hroom ?k6 ?k7 ?k9 ?kB ?_ ?c1 ?c2 ?c3 ?c4; (case k6 => k_is); (case k7 => k_is); (case k9 => exact binds_K X rfl (by k_is) rfl rfl rfl); (case kB => exact locs rfl); (case c1 => decide); (case c2 => exact rfl); (case c3 => exact rfl); (case c4 => exact rfl))
  intro h₁ F
  have F1 := fr_hide [a] F
  obtain ⟨⟨n, ho⟩, ⟨tk0, tn0, n0, hdd⟩, hsm⟩ := id xa
  have N1 : News (hideAll s.heap [a]) s.heap.objs.size h₁ [(a, accObj d vs n)] := by
    intro p hp
    simp only [List.mem_cons, List.not_mem_nil, or_false] at hp
    rcases hp with rfl
    exact ⟨F.keep _ _ ho, Nat.ne_of_lt (Heap.lt_size ho), hideAll_none _ (by simp)⟩
  have GX := gh.X
  have GT := gh.T
  have hdG : (hideAll s.heap [a]).get? d = some (szDict w k tk0 tn0 n0) := hideAll_get _ hdd (by simp [Ne.symm had])
  clear F
  k_steps
  refine Stop.mk (accL_get (s := ⟨_, _, _, _, _⟩) (by assumption) (by assumption) (by assumption) (.head _) (by assumption) (by assumption) (by assumption) ?_)
  intro D' h' F' N' l1
  have l2 := l1 _ (.head _)
  clear l1
  k_steps
  refine Stop.mk (accL_set (us := []) (s := ⟨_, _, _, _, _⟩) (by assumption) (by assumption) (by assumption) (by assumption) (by assumption) (by simp) (by simp; omega) (by assumption) (Nat.ne_of_gt (And.right (by assumption))) (Nat.ne_of_gt (by assumption)) ?_)
  k_steps
  have NN := ‹News (hideAll s.heap [a]) s.heap.objs.size _ [_, _, (a, accObj d (_ ++ []) _)]›
  have FF := ‹Fr (hideAll s.heap [a]) s.heap.objs.size _ _›
  have Nt := NN _ (.tail _ (.head _))
  have Na := NN _ (.tail _ (.tail _ (.head _)))
  rw [List.append_nil] at Na
  refine h _ _ _ (fun b o hb e => FF.keep b o (hideAll_get _ e (by simp [hb]))) ?_ Nt.1 ⟨⟨_, Na.1⟩, ⟨_, _, _, FF.keep _ _ hdG⟩, by simp; omega⟩
  cases q : s.heap.get? _ with
  | none => rfl
  | some o => have := hideAll_get [a] q (by simp; exact Nat.ne_of_gt (by assumption)); rw [Nt.2.2] at this; cases this
end
end Mine
end

section
open PySem PySem.W PyProof.Rows PySem.Calls Builtin Builtin.ObjectAttr
set_option maxRecDepth 100000
set_option maxHeartbeats 4000000
namespace Mine
section
variable {w : World} {A : Around} {s : Shared} {a d : Addr} {vs : List Value} {k : Int} {R : Result → Shared → Prop} {mg mb : Str → Option Value} {mean : ExcName → Option Value} {h₀ : Heap} {E : Value → Shared → Prop}
theorem accR_set {G : Heap} {L l : Addr} {m : Str → Option Value} {od : Obj} {us : List Value} {n : Nat} {Q : Unit → Shared → Prop} (F : Fr G L s.heap m) (X : (hd.heap_39 w.params).In G) (N : News G L s.heap [(a, accObj d vs n), (d, od)]) (hod : ∃ k tk tn n0, od = szDict w k tk tn n0) (hs : vs.length ≤ 1000) (hl : G.IsList l us.toArray) (hus : us.length ≤ 1000) (had : d ≠ a)
    (h : ∀ h' n', Fr G L h' m → News G L h' [(a, accObj d us n'), (d, od)] → Q () { s with heap := h' }) :
    wpAny (model PySem.Challenge.rw_nb0052_01.row.prog w) A (setItem (.ref a) (.ref s.heap.objs.size) (.ref l)) Q E { s with heap := s.heap.push (sliceO .none) } := by
  have k1 : ∀ b o, s.heap.get? b = some o → (s.heap.push (sliceO .none)).get? b = some o := fun b o e => Heap.get?_push_of_some _ e
  have F1 := fr_grow F k1
  have N1 : News G L (s.heap.push (sliceO .none)) [(a, accObj d vs n), (d, od)] := by have := news_grow F N k1 [] (fun _ h => nim h); exact this
  obtain ⟨k, tk, tn, n0, rfl⟩ := hod
  have Na := N1 _ (.head _)
  have x : Acc w (s.heap.push (sliceO .none)) a d vs k := ⟨⟨n, Na.1⟩, ⟨tk, tn, n0, (N1 _ (.tail _ (.head _))).1⟩, hs⟩
  have XX := X.keeps F1.keep
  obtain ⟨ol, hol, hlr⟩ := hl
  have hla : l ≠ a := fun e => by rw [e, Na.2.2] at hol; cases hol
  refine acc_setslice (lo := none) XX x ⟨_, Heap.get?_push_size _ rfl, rfl, rfl⟩ .none ⟨ol, F1.keep _ _ hol, hlr⟩ hla hus (fun j z => nomatch z) fun h' k' e' _ => ?_
  obtain ⟨n', e'⟩ := e'
  refine h h' n' (fr_but F1 Na.2.1 Na.2.2 k') fun p hp => ?_
  simp only [List.mem_cons, List.not_mem_nil, or_false] at hp
  rcases hp with rfl | rfl
  · exact ⟨e', Na.2⟩
  · exact ⟨k' _ _ had (N1 _ (.tail _ (.head _))).1, (N1 _ (.tail _ (.head _))).2⟩
theorem accR_attr {G : Heap} {L : Addr} {m : Str → Option Value} {od : Obj} {n : Nat} {k' : Int} {tk' : Tok} {Q : Unit → Shared → Prop} (F : Fr G L s.heap m) (X : (hd.heap_39 w.params).In G) (N : News G L s.heap [(a, accObj d vs n), (d, od)]) (hod : ∃ k tk tn n0, od = szDict w k tk tn n0) (had : d ≠ a)
    (h : ∀ h' tt tn n0, Fr G L h' m → News G L h' [(a, accObj d vs n), (d, szDict w k' tk' tn n0)] → Q () { s with heap := h', toks := tt }) :
    wpAny (model PySem.Challenge.rw_nb0052_01.row.prog w) A (setAttr (.ref a) (Str.ofString "_initial_size") (.int k' tk')) Q E s := by
  have Na := N _ (.head _)
  have Nd := N _ (.tail _ (.head _))
  refine acc_setattr (X.keeps F.keep) Na.1 Nd.1 (.inr hod) fun h' tt k1 ⟨tn, n0, e1⟩ _ => h h' tt tn n0 (fr_but F Nd.2.1 Nd.2.2 k1) fun p hp => ?_
  simp only [List.mem_cons, List.not_mem_nil, or_false] at hp
  rcases hp with rfl | rfl
  · exact ⟨k1 _ _ (Ne.symm had) Na.1, Na.2⟩
  · exact ⟨e1, Nd.2⟩
local macro_rules | `(tactic| walk_at "setItem") => `(tactic| (k_here; refine stop1 ?_))
local macro_rules | `(tactic| walk_at "setAttr") => `(tactic| (k_here; refine stop1 ?_))
theorem reset_code {l : Addr} {us : List Value} (g : Gr w mean mg mb h₀ s.heap) (hroom : A.depth < recursionLimit) (na : h₀.get? a = none) (nd : h₀.get? d = none) (had : d ≠ a) (xa : Acc w s.heap a d vs k) (hl : s.heap.IsList l us.toArray) (hla : l ≠ a) (hld : l ≠ d) (hus : us.length ≤ 1000)
    (h : ∀ h' tk, (∀ b o, b ≠ a → b ≠ d → s.heap.get? b = some o → h'.get? b = some o) → Acc w h' a d us 0 → R (.ok (.ret .none)) { s with heap := h', toks := tk }) :
    codeAny (model PySem.Challenge.rw_nb0052_01.row.prog w) A (.call (.ref 76) ⟨[.ref a, .ref l], []⟩) R s := by
  have X := g.X.keeps g.keep
  have T := g.T.keeps g.keep
  have gh := g.hide [a, d] (by intro b hb; simp only [List.mem_cons, List.not_mem_nil, or_false] at hb; rcases hb with rfl | rfl <;> assumption)
  revert X; k_fill; intro X
  k_dflt (refine' enterP X T hroom ?k6 ?k7 ?k9 ?kB ?_ ?c1 ?c2 ?c3 ?c4; (case k6 => k_is); (case k7 => k_is); (case k9 => exact binds_K X rfl (by k_is) rfl rfl rfl); (case kB => exact locs rfl); (case c1 => decide); (case c2 => exact rfl); (case c3 => exact rfl); (case c4 => exact rfl))
  intro h₁ F
  have F1 := fr_hide [a, d] F
  obtain ⟨⟨n, ho⟩, ⟨tk0, tn0, n0, hdd⟩, hsm⟩ := id xa
  have N1 : News (hideAll s.heap [a, d]) s.heap.objs.size h₁ [(a, accObj d vs n), (d, szDict w k tk0 tn0 n0)] := by
    intro p hp
    simp only [List.mem_cons, List.not_mem_nil, or_false] at hp
    rcases hp with rfl | rfl
    · exact ⟨F.keep _ _ ho, Nat.ne_of_lt (Heap.lt_size ho), hideAll_none _ (by simp)⟩
    · exact ⟨F.keep _ _ hdd, Nat.ne_of_lt (Heap.lt_size hdd), hideAll_none _ (by simp)⟩
  have GX := gh.X
  have GT := gh.T
  have hdG : ∃ k' tk tn n1, szDict w k tk0 tn0 n0 = szDict w k' tk tn n1 := ⟨_, _, _, _, rfl⟩
  have hlG : (hideAll s.heap [a, d]).IsList l us.toArray := by
    obtain ⟨ol, hol, hlr⟩ := hl
    exact ⟨ol, hideAll_get _ hol (by simp [hla, hld]), hlr⟩
  clear F
  k_steps
  refine Stop.mk (accR_set (s := ⟨_, _, _, _, _⟩) (by assumption) (by assumption) (by assumption) (by assumption) (by assumption) (by assumption) (by assumption) (by assumption) ?_)
  intro h' n' F' N'
  k_steps
  refine Stop.mk (accR_attr (by assumption) (by assumption) (by assumption) (by assumption) (by assumption) ?_)
  intro h' tt tn n0 F' N'
  k_steps
  have NN := ‹News (hideAll s.heap [a, d]) s.heap.objs.size _ [(a, accObj d us _), (d, szDict w 0 _ _ _)]›
  have FF := ‹Fr (hideAll s.heap [a, d]) s.heap.objs.size _ _›
  have Na := NN _ (.head _)
  have Nd := NN _ (.tail _ (.head _))
  exact h _ _ (fun b o hb hb2 e => FF.keep b o (hideAll_get _ e (by simp [hb, hb2]))) ⟨⟨_, Na.1⟩, ⟨_, _, _, Nd.1⟩, hus⟩
end
end Mine
end

section
open PySem PySem.W PyProof.Rows PySem.Calls Builtin Builtin.ObjectAttr
set_option maxRecDepth 100000
set_option maxHeartbeats 4000000
namespace Mine
local macro_rules | `(tactic| walk_at "pad") => `(tactic| skip)
section
variable {w : World} {A : Around} {s : Shared} {a d : Addr} {vs : List Value} {k : Int} {R : Result → Shared → Prop} {mg mb : Str → Option Value} {mean : ExcName → Option Value} {h₀ : Heap} {E : Value → Shared → Prop}
theorem Acc.keeps {h h' : Heap} (x : Acc w h a d vs k) (hk : ∀ b o, h.get? b = some o → h'.get? b = some o) : Acc w h' a d vs k := by
  obtain ⟨⟨n, e1⟩, ⟨tk, tn, n', e2⟩, e3⟩ := x
  exact ⟨⟨n, hk _ _ e1⟩, ⟨tk, tn, n', hk _ _ e2⟩, e3⟩
theorem pcL_meth {G : Heap} {L : Addr} {m : Str → Option Value} {pl : Sem Bool} {Q : Value × List Value → Shared → Prop} (F : Fr G L s.heap m) (X : (hd.heap_39 w.params).In G) (x : Acc w G a d vs k)
    (h : Q (.ref 91, [.ref a]) s) : wpAny (model PySem.Challenge.rw_nb0052_01.row.prog w) A (getMethod (.ref a) (Str.ofString "part_count") pl) Q E s :=
  acc_meth (T := "function") (X.keeps F.keep) (x.keeps F.keep) (by kernel_rfl) (by kernel_rfl) (by decide) (by decide) h
theorem pcL_call {G : Heap} {L : Addr} {m : Str → Option Value} {Q : Value → Shared → Prop} (F : Fr G L s.heap m) (X : (hd.heap_39 w.params).In G) (T : TopV mean mg mb G) (x : Acc w G a d vs k) (hroom : A.depth < recursionLimit)
    (h : ∀ h' t tk, Fr G L h' m → Q (.int vs.length t) { s with heap := h', toks := tk }) : wpAny (model PySem.Challenge.rw_nb0052_01.row.prog w) A (call (.ref 91) [.ref a]) Q E s :=
  wpAny_call (part_count_code (X.keeps F.keep) (T.keeps F.keep) hroom (x.keeps F.keep) fun h' t tk k' => h h' t tk (fr_grow F k'))
local macro_rules | `(tactic| walk_at "getMethod ref") => `(tactic| (k_here; refine stop1 ?_))
local macro_rules | `(tactic| walk_at "call ref") => `(tactic| (k_here; refine stop1 ?_))
theorem ks_If_F {c : Code} {env : Env} {G : Heap} {L : Addr} {m : Str → Option Value} {test : Expr} {body orelse : List Stmt} {pos : Pos} {Q : Flow → Shared → Prop} {M : Model} {b0 : Bool} (F : Fr G L s.heap m)
    (h : wpAny M A (isTrue test env (eval test env)) (fun b s1 => ∃ h' tk, Fr G L h' m ∧ b = b0 ∧ s1 = { s with heap := h', toks := tk }) E s)
    (h2 : ∀ h' tk, Fr G L h' m → if b0 then PySem.wpAt M A c (execs body env) Q E { s with heap := h', toks := tk } else PySem.wpAt M A c (execs orelse env) Q E { s with heap := h', toks := tk }) :
    PySem.wpAt M A c (exec (.If test body orelse pos) env) Q E s := by
  refine ks_wpAt_If (wpAt_of_wpAny (wpAny_mono h ?_ fun _ _ z => z))
  rintro b s1 ⟨h', tk, F', rfl, rfl⟩
  exact h2 h' tk F'
theorem pop_code (g : Gr w mean mg mb h₀ s.heap) (hroom : A.depth + 1 < recursionLimit) (na : h₀.get? a = none) (nd : h₀.get? d = none) (had : a ≠ d) (xa : Acc w s.heap a d vs k)
    (h0 : vs = [] → ∀ h' t tk te te', (∀ b o, s.heap.get? b = some o → h'.get? b = some o) → s.heap.get? t = none → h'.get? t = some { cls := .type "tuple", data := .seq #[.str (Str.ofString "") te, .str (Str.ofString "") te'] } → R (.ok (.ret (.ref t))) { s with heap := h', toks := tk })
    (h1 : ∀ us v, vs = us ++ [v] → ∀ h' tk, (∀ b o, b ≠ a → s.heap.get? b = some o → h'.get? b = some o) → Acc w h' a d us k → R (.ok (.ret v)) { s with heap := h', toks := tk }) :
    codeAny (model PySem.Challenge.rw_nb0052_01.row.prog w) A (.call (.ref 54) ⟨[.ref a], []⟩) R s := by
  have X := g.X.keeps g.keep
  have T := g.T.keeps g.keep
  have gh := g.hide [a] (by intro b hb; simp only [List.mem_cons, List.not_mem_nil, or_false] at hb; rcases hb with rfl; assumption)
  revert X; k_fill; intro X
  k_dflt (refine' enterS X T (Nat.lt_of_succ_lt hroom) ?k6 ?k7 ?k9 ?kB ?_ ?c1 ?c2 ?c3 ?c4; (case k6 => k_is); (case k7 => k_is); (case k9 => exact BindsTo.of_eq rfl); (case kB => exact locs rfl); (case c1 => decide); (case c2 => exact rfl); (case c3 => exact rfl); (case c4 => exact rfl))
  intro h₁ F
  refine ks_wpAt_execs_cons (ks_If_F (b0 := decide (vs = [])) F ?_ ?_)
  · k_steps
    refine Stop.mk (pcL_meth (by assumption) (by assumption) (by assumption) ?_)
    k_steps
    refine Stop.mk (pcL_call (by assumption) (by assumption) (by assumption) (by assumption) (by show _ + 1 < _; omega) ?_)
    intro h' t tk F'
    k_steps
    · assumption
    · cases vs <;> simp <;> omega
  · intro h2 tk2 F2
    by_cases hv : vs = []
    · rw [if_pos (by simp [hv])]
      refine wpAt_of_wpAny ?_
      have NE : News s.heap s.heap.objs.size h2 [] := News.nil
      k_steps
      have NN := ‹News s.heap s.heap.objs.size _ [_]›
      have FF := ‹Fr s.heap s.heap.objs.size _ _›
      have Nt := NN _ (.head _)
      exact h0 hv _ _ _ _ _ FF.keep Nt.2.2 Nt.1
    · rw [if_neg (by simp [hv])]
      refine wpAt_of_wpAny (wpAny_execs_nil ?_)
      dsimp only
      refine ks_wpAt_execs_cons (ks_wpAt_Return_some ?_)
      obtain ⟨us, v, hus⟩ : ∃ us v, vs = us ++ [v] := ⟨_, _, (List.dropLast_concat_getLast hv).symm⟩
      have x2 : Acc w h2 a d vs k := xa.keeps F2.keep
      obtain ⟨⟨n, ho⟩, ⟨tk0, tn0, n0, hdd⟩, hsm⟩ := id xa
      have F3 := fr_hide [a] F2
      have N3 : News (hideAll s.heap [a]) s.heap.objs.size h2 [(a, accObj d vs n)] := by
        intro p hp
        simp only [List.mem_cons, List.not_mem_nil, or_false] at hp
        rcases hp with rfl
        exact ⟨F2.keep _ _ ho, Nat.ne_of_lt (Heap.lt_size ho), hideAll_none _ (by simp)⟩
      have hdG : (hideAll s.heap [a]).get? d = some (szDict w k tk0 tn0 n0) := hideAll_get _ hdd (by simp [Ne.symm had])
      have hI : ∀ h', (∀ b o, (hideAll s.heap [a]).get? b = some o → h'.get? b = some o) → News (hideAll s.heap [a]) s.heap.objs.size h' [(a, accObj d vs n)] → ∃ ox odx, InstAt h' a ox 94 odx := fun h' hk N => ⟨_, some _, (N _ (.head _)).1, rfl, rfl, hk _ _ hdG⟩
      have GX := gh.X
      k_dflt (refine' Sup.sup_eval (B := "builtin_function_or_method") F3 gh.X N3 gh.T hI ?hf ?hp ?har ?hv ?hcode ?hvs ?hks ?hkc ?hka ?hk ?hat ?hfn Sup.type_pop Sup.slot_mg.lookup (.inr rfl) ?hcall ?he ?_; (case hf => k_is); (case hp => exact rfl); (case har => exact rfl); (case hv => exact rfl); (case hcode => k_is); (case hvs => exact rfl); (case hks => exact rfl); (case hkc => exact rfl); (case hka => exact rfl); (case hk => exact rfl); (case hat => decide); (case hfn => (rw [builtinOwn_eq_fast]; kernel_rfl)); (case he => exact rfl))
      case hcall => exact fun A E Q s xx il z => by obtain ⟨hh, g, dr, t, os⟩ := s; exact Sup.get_pop il (clsL xx).isT z
      intro h4 qq so tk F4 N4
      have Na := N4 _ (.tail _ (.tail _ (.head _)))
      have x4 : Acc w h4 a d vs k := ⟨⟨n, Na.1⟩, ⟨_, _, _, F4.keep _ _ hdG⟩, hsm⟩
      refine wpAny_call (Sup.call_pop (GX.keeps F4.keep) x4 (N4 _ (.head _)).1 ?_)
      refine acc_lpop hus x4 fun h' k' e' _ => ?_
      exact h1 us v hus h' _ (fun b o hb e => k' b o hb (F4.keep b o (hideAll_get _ e (by simp [hb])))) ⟨e', ⟨_, _, _, k' _ _ (Ne.symm had) (F4.keep _ _ hdG)⟩, by rw [hus, List.length_append] at hsm; omega⟩
end
end Mine
end

section
open PySem PySem.W PyProof.Rows PySem.Calls Builtin Builtin.ObjectAttr
set_option maxRecDepth 100000
set_option maxHeartbeats 4000000
namespace Mine
section
variable {w : World} {A : Around} {s : Shared} {a d it : Addr} {vs : List Value} {k : Int} {E : Value → Shared → Prop} {i n : Nat}
abbrev itO (a : Addr) (i : Int) : Obj := { cls := .type "list_iterator", data := .fields #[.ref a, .int i 0] }
theorem acc_iter {Q : Value → Shared → Prop} (X : (KF w).In s.heap) (x : Acc w s.heap a d vs k)
    (h : Q (.ref s.heap.objs.size) { s with heap := s.heap.push (itO a 0) }) : wpAny (model PG w) A (pyIter (.ref a)) Q E s := by
  have il := acc_isList (M := model PG w) X x
  obtain ⟨n, tk, tn, n', I⟩ := x.inst
  have sp : Looks (model PG w) s.heap (specialOf (.ref a) (Str.ofString "__iter__")) (some (.builtin "list.__iter__")) := by
    unfold specialOf
    exact I.type.andThen (looks_findIn X (by kernel_rfl))
  unfold pyIter
  refine wpAny_bind (sp.here ?_)
  show wpAny _ _ (callSpecialIfBoundUnlessNone? _ _ _ >>= _) _ _ _
  unfold callSpecialIfBoundUnlessNone?
  refine wpAny_bind (wpAny_holding (wpAny_bind ?_))
  have done : wpAny (model PG w) A (call (.builtin "list.__iter__") [.ref a]) (fun v s' => wpAny (model PG w) A (specialOf v (Str.ofString "__next__")) (fun r s'' => r = some (.builtin "list_iterator.__next__") ∧ Q v s'') E s') E s := by
    refine wpAny_call (codeAny_call_builtin slot_list_iter.plain entry_list_iter (@check_slot (model PG w) _ _ s "list.__iter__" "list" "__iter__" (.ref a) [] [] _ (by decide +kernel) (by decide +kernel) il (args_list_iter _) ?_))
    show wpAny _ _ (do ret (← newFields "list_iterator" [.ref a, rawInt 0])) _ _ s
    exact wpAny_bind (wpAny_newObj_type (wpAny_pure (wpAny_specialOf (T := "list_iterator") ⟨_, Heap.get?_push_size _ rfl, rfl⟩ slot_listiter_next.lookup ⟨rfl, h⟩)))
  have fin : ∀ P : Option (Value × List Value) → Shared → Prop, P (some (.builtin "list.__iter__", [.ref a])) s → wpAny (model PG w) A (bindSpecialIfBound? (.ref a) (Str.ofString "__iter__")) P E s := fun P hP => by
    unfold bindSpecialIfBound?
    refine wpAny_bind (sp.here ?_)
    dsimp only
    rw [slot_list_iter.bind]
    refine wpAny_bind (wpAny_askSetting ?_)
    split
    · exact wpAny_bind (wpAny_pure (wpAny_pure hP))
    · exact wpAny_tryCatch (wpAny_bind (wpAny_pure (wpAny_pure hP)))
  refine fin _ ?_
  dsimp only
  rw [if_neg (show ¬ ((Value.builtin "list.__iter__" == Value.none) = true) from Bool.false_ne_true)]
  refine wpAny_bind (wpAny_mono done (fun v s' z => wpAny_pure (wpAny_bind (wpAny_mono z (fun r s'' zz => ?_) fun _ _ e => e))) fun _ _ e => e)
  obtain ⟨rfl, q⟩ := zz
  exact wpAny_pure q
theorem acc_next {v : Value} {Q : Option Value → Shared → Prop} (hit : s.heap.IsListIter it a i) (ha : s.heap.get? a = some (accObj d vs n)) (hx : vs[i]? = some v)
    (hQ : ∀ h', h'.IsListIter it a (i + 1) → Heap.SameBut it s.heap h' → Q (some v) { s with heap := h' }) : wpAny (model PG w) A (pyNext (.ref it)) Q E s := by
  have at_ : (vs.toArray)[((i : Int)).toNat]? = some v := by simpa using hx
  have isT := hit.typeIs
  obtain ⟨⟨c, dd, dt, sl⟩, ho, hc, hd⟩ := hit
  obtain ⟨hp, g, dr, t, os⟩ := s
  change c = _ at hc; change dt = _ at hd
  subst hc hd
  unfold pyNext
  refine wpAny_bind (wpAny_attempt (wpAny_callSpecial?_slot (name := Str.ofString "__next__") isT slot_listiter_next (wpAny_call_entry slot_listiter_next isT entry_listiter_next ?_ (args_listiter_next _))))
  unfold Builtin.«list_iterator.__next__»
  repeat lk
  rw [at_]
  refine wpAny_bind (wpAny_setField ho rfl (by simp) (wpAny_pure ⟨v, rfl, wpAny_pure (hQ _ ?_ (Heap.SameBut.update ..))⟩))
  exact ⟨_, Heap.get?_update_self _ ho rfl, rfl, rfl⟩
theorem acc_next_end {Q : Option Value → Shared → Prop} (hh : A.handled = none) (hit : s.heap.IsListIter it a i) (ha : s.heap.get? a = some (accObj d vs n)) (hx : vs[i]? = none)
    (hQ : ∀ h', Heap.ExtBut it s.heap h' → Q none { s with heap := h' }) : wpAny (model PG w) A (pyNext (.ref it)) Q E s := by
  have at_ : (vs.toArray)[((i : Int)).toNat]? = none := by simpa using hx
  have isT := hit.typeIs
  obtain ⟨⟨c, dd, dt, sl⟩, ho, hc, hd⟩ := hit
  obtain ⟨hp, g, dr, t, os⟩ := s
  change c = _ at hc; change dt = _ at hd
  subst hc hd
  unfold pyNext
  refine wpAny_bind (wpAny_attempt (wpAny_callSpecial?_slot (name := Str.ofString "__next__") isT slot_listiter_next (wpAny_call_entry slot_listiter_next isT entry_listiter_next ?_ (args_listiter_next _))))
  unfold Builtin.«list_iterator.__next__»
  repeat lk
  rw [at_]
  refine wpAny_bind (wpAny_rule (wpAny_bind (wpAny_setField ho rfl (by simp) ?_)))
  unfold SmallTypes.stopIteration
  repeat first
    | with_reducible refine wpAny_raiseNew_none hh (wpAny_bind (wpAny_isInstance (T := "StopIteration") (b := true) ?_ isSubtype_stop ?_))
    | lk
  · exact ⟨_, Heap.get?_push_size _ rfl, rfl⟩
  · exact wpAny_pure (hQ _ (((Heap.SameBut.update ..).extBut.push _).push _))
end
abbrev PA (I a d : Addr) (n : Nat) (items : List Value) (Ts : Nat → Addr) (vals : Nat → Array Value) (j : Nat) (h : Heap) : Prop :=
  h.IsListIter I a j ∧ h.get? a = some (accObj d items n) ∧ ∀ k, k < items.length → h.IsTuple (Ts k) (vals k)
theorem PA.keep {I a d : Addr} {n : Nat} {items : List Value} {Ts : Nat → Addr} {vals : Nat → Array Value} {j : Nat} {h h' : Heap} (st : PA I a d n items Ts vals j h)
    (kp : ∀ b, b = I ∨ b = a ∨ (∃ q, q < items.length ∧ b = Ts q) → ∀ o, h.get? b = some o → h'.get? b = some o) : PA I a d n items Ts vals j h' :=
  ⟨st.1.at fun o e => kp I (.inl rfl) o e, kp a (.inr (.inl rfl)) _ st.2.1, fun q hq => (st.2.2 q hq).at fun o e => kp _ (.inr (.inr ⟨q, hq, rfl⟩)) o e⟩
theorem accPairs {w : World} {A : Around} (hh : A.handled = none) (I a d : Addr) (hne : a ≠ I) (n : Nat) (items : List Value) (Ts : Nat → Addr) (vals : Nat → Array Value)
    (hit : ∀ j, j < items.length → items[j]? = some (.ref (Ts j))) (hTI : ∀ j, j < items.length → Ts j ≠ I) :
    WalksU PG w A I (I :: a :: (List.range items.length).map Ts) [I] items.length (fun j v => v = vals j) (PA I a d n items Ts vals)
      (fun j T h => (j < items.length ∧ T = Ts j) ∧ PA I a d n items Ts vals (j + 1) h) := by
  have off : ∀ {h h' : Heap}, Heap.ExtBut I h h' → ∀ b o, b ∉ [I] → h.get? b = some o → h'.get? b = some o := fun ex b o hb e => ex b o (fun z => hb (by rw [z]; exact .head _)) e
  constructor
  case sub => intro b hb; rw [List.mem_singleton.mp hb]; exact .head _
  case frame =>
    intro j h h' st kp
    refine st.keep fun b hb o e => kp b ?_ o e
    rcases hb with rfl | rfl | ⟨q, hq, rfl⟩
    · exact .head _
    · exact .tail _ (.head _)
    · exact .tail _ (.tail _ (List.mem_map_of_mem (List.mem_range.mpr hq)))
  case item =>
    intro j s Q E hj st hQ
    refine acc_next st.1 st.2.1 (hit j hj) fun h' it' sb => ?_
    have tp : ∀ q, q < items.length → h'.IsTuple (Ts q) (vals q) := fun q hq => (st.2.2 q hq).at fun o e => sb.extBut _ _ (hTI q hq) e
    exact hQ _ _ h' s.toks rfl (tp j hj) ⟨⟨hj, rfl⟩, it', sb.extBut _ _ hne st.2.1, tp⟩ (off sb.extBut)
  case go => exact fun _ _ _ _ _ s _ _ md hQ => wpAny_letOwnedTupleGo_listiter md.2.1 (hQ s.heap md.2 fun _ _ _ e => e)
  case apart => exact fun j T _ md hz => hTI j md.1.1 (md.1.2 ▸ List.mem_singleton.mp hz)
  case done => exact fun s _ _ st hQ => acc_next_end hh st.1 st.2.1 (List.getElem?_eq_none (Nat.le_refl _)) fun h' ex => hQ h' s.toks (off ex)
  case self => exact fun _ _ _ _ st hQ => wpAny_pyIter_listiter st.1 hQ
end Mine
end

section
open PySem PySem.W PyProof.Rows PySem.Calls Builtin Builtin.ObjectAttr
set_option maxRecDepth 100000
set_option maxHeartbeats 1000000
namespace Mine
abbrev nm (x : String) (p : Pos) : PySem.Expr := .Name (Str.ofString x) p
section
variable {w : World} {A : Around} {s : Shared} {mg mb m : Str → Option Value} {mean : ExcName → Option Value} {G : Heap} {E : Value → Shared → Prop} {C : Addr} {scope : Scope} {code : Value} {env : Env} {M : Model}
theorem genB {x : Str} {pos : Pos} {v : Value} {Q : Value → Shared → Prop} (X : (KF w).In G) (T : TopV mean mg mb G) (F : Fr G C s.heap m) (e : nsIn (KF w) mainGlobals x = some none) (hv : bootBuiltins x = some v) (hn : x ≠ "__name__")
    (hg : env.globals = mainGlobals) (hk : scope.kind = .function) (hx : scope.names.lookup x = some .globalImplicit) (hd : (x == ("__debug__" : Str)) = false) (h : Q v s) : wpAny M A (eval (.Name x pos) (genEnv scope [] C code builtinsNs env)) Q E s :=
  Name_function_global hk hx (loadGlobal_builtin (env := genEnv scope [] C code builtinsNs env) (show s.heap.Ns env.globals mg from hg ▸ T.g.keeps F.keep) (mg_none_of X T.g e) (T.b.keeps F.keep) ((T.builtins x hn).trans hv) h) hd
theorem genL {x : Str} {pos : Pos} {v : Value} {Q : Value → Shared → Prop} (F : Fr G C s.heap m) (hv : m x = some v) (hk : scope.kind = .function) (hx : scope.names.lookup x = some .local) (hd : (x == ("__debug__" : Str)) = false) (h : Q v s) :
    wpAny M A (eval (.Name x pos) (genEnv scope [] C code builtinsNs env)) Q E s := ldVarG F hv h hk hx hd
theorem gen_len {x : Str} {n : String} {tx : Tok} {p1 p2 p3 : Pos} {Q : Value → Shared → Prop} (X : (KF w).In G) (T : TopV mean mg mb G) (F : Fr G C s.heap m) (hv : m (Str.ofString n) = some (.str x tx)) (hsm : x.length ≤ 1000)
    (hg : env.globals = mainGlobals) (hk : scope.kind = .function) (k1 : scope.names.lookup (Str.ofString n) = some .local) (k3 : scope.names.lookup (Str.ofString "len") = some .globalImplicit) (hd : (Str.ofString n == ("__debug__" : Str)) = false)
    (h : ∀ t tk, Q (.int x.length t) { s with toks := tk }) :
    wpAny (model PG w) A (eval (.Call (nm "len" p1) [nm n p2] [] p3) (genEnv scope [] C code builtinsNs env)) Q E s := by
  refine wpAny_Call_NameR (genB X T F (by kernel_rfl) (v := .builtin "len") (by kernel_rfl) (by decide) hg hk k3 (by decide) ?_)
  refine PyProof.Rows.callWith_builtin1 (spliced_more (genL F hv hk k1 hd (spliced_none ?_)))
  refine PySem.P.len_str (by omega) (h _ _)
theorem elt_len {x y : Str} {tx ty : Tok} {p1 p2 p3 p4 p5 p6 p7 : Pos} (X : (KF w).In G) (T : TopV mean mg mb G) (F : Fr G C s.heap m) (ha : m (Str.ofString "fws") = some (.str x tx)) (hb : m (Str.ofString "part") = some (.str y ty)) (hx : x.length ≤ 1000) (hy : y.length ≤ 1000)
    (hg : env.globals = mainGlobals) (hk : scope.kind = .function) (k1 : scope.names.lookup (Str.ofString "fws") = some .local) (k2 : scope.names.lookup (Str.ofString "part") = some .local) (k3 : scope.names.lookup (Str.ofString "len") = some .globalImplicit) :
    wpAny (model PG w) A (eval (.BinOp (.Call (nm "len" p1) [nm "fws" p2] [] p3) .Add (.Call (nm "len" p4) [nm "part" p5] [] p6) p7) (genEnv scope [] C code builtinsNs env)) (fun v s' => (∃ t, v = .int (x.length + y.length) t) ∧ Keeps s s') E s := by
  refine wpAny_BinOp (gen_len X T F ha hx hg hk k1 k3 (by decide) fun t tk => ?_)
  refine gen_len X T F hb hy hg hk k2 k3 (by decide) fun t' tk' => ?_
  exact wpAny_add_int ⟨⟨_, rfl⟩, ⟨_, _, rfl, fun _ _ e => e⟩⟩
end
end Mine
end

section
open PySem PySem.W PyProof.Rows PySem.Calls Builtin Builtin.ObjectAttr
set_option maxRecDepth 100000
set_option maxHeartbeats 1000000
namespace Mine
section
variable {w : World} {A : Around} {s : Shared} {mg mb m : Str → Option Value} {mean : ExcName → Option Value} {G : Heap} {E : Value → Shared → Prop} {C : Addr} {scope : Scope} {code : Value} {env : Env} {M : Model}
def strOf? : Option (Option Value) → Option Str
  | some (some (.str x _)) => some x
  | _ => none
theorem strOf?_some {v : Option (Option Value)} {x : Str} (h : strOf? v = some x) : ∃ t, v = some (some (.str x t)) := by
  unfold strOf? at h
  split at h
  · cases h; exact ⟨_, rfl⟩
  · cases h
theorem es_in {w : World} : ∃ t, nsIn (KF w) mainGlobals (Str.ofString "EMPTYSTRING") = some (some (.str (Str.ofString "") t)) := strOf?_some (by kernel_rfl)
theorem genK {x : Str} {pos : Pos} {v : Value} {Q : Value → Shared → Prop} (X : (KF w).In G) (T : TopV mean mg mb G) (F : Fr G C s.heap m) (e : nsIn (KF w) mainGlobals x = some (some v))
    (hg : env.globals = mainGlobals) (hk : scope.kind = .function) (hx : scope.names.lookup x = some .globalImplicit) (hd : (x == ("__debug__" : Str)) = false) (h : Q v s) : wpAny M A (eval (.Name x pos) (genEnv scope [] C code builtinsNs env)) Q E s :=
  Name_function_global hk hx (loadGlobal_global (env := genEnv scope [] C code builtinsNs env) (show s.heap.Ns env.globals mg from hg ▸ T.g.keeps F.keep) (mg_of X T.g e) h) hd
theorem elt_join {x y : Str} {tx ty : Tok} {p1 p2 p3 p4 p5 p6 : Pos} {kt : Nat} (X : (KF w).In G) (T : TopV mean mg mb G) (F : Fr G C s.heap m) (ha : m (Str.ofString "fws") = some (.str x tx)) (hb : m (Str.ofString "part") = some (.str y ty)) (hx : x.length ≤ 1000) (hy : y.length ≤ 1000)
    (hg : env.globals = mainGlobals) (hk : scope.kind = .function) (k1 : scope.names.lookup (Str.ofString "fws") = some .local) (k2 : scope.names.lookup (Str.ofString "part") = some .local) (k3 : scope.names.lookup (Str.ofString "EMPTYSTRING") = some .globalImplicit) (hline : (p2.endLine == p6.line) = true) :
    wpAny (model PG w) A (eval (.Call (.Attribute (nm "EMPTYSTRING" p1) (Str.ofString "join") p2) [.Tuple [nm "fws" p3, nm "part" p4] kt p5] [] p6) (genEnv scope [] C code builtinsNs env)) (fun v s' => (∃ t, v = .str (x ++ y) t) ∧ Keeps s s') E s := by
  obtain ⟨te, ee⟩ := es_in (w := w)
  refine wpAny_Call_method rfl (by rfl) hline PySem.F.plainAttrs_str PySem.F.slot_str_join PySem.F.type_str_join (genK X T F ee hg hk k3 (by decide) ⟨typeIs_str _ _ _, (fun _ e => nomatch e), ?_⟩)
  refine callWith_method1 (spliced_more (wpAny_Tuple (spliced_more (genL F ha hk k1 (by decide) (spliced_more (genL F hb hk k2 (by decide) (spliced_none ⟨(show 2 ≤ sizeLine by decide), spliced_none ?_⟩)))))))
  refine join_tuple (ys := [x, y]) ⟨_, Heap.get?_push_size _ rfl, rfl, _, rfl⟩ (.cons _ _ (.cons _ _ .nil)) (by have : (Str.ofString "").length = 0 := rfl; simp [this]; omega) fun t' k => ⟨⟨t', ?_⟩, ⟨_, _, rfl, fun _ _ e => Heap.get?_push_of_some _ e⟩⟩
  congr 1
end
end Mine
end

section
open PySem PySem.W PyProof.Rows PySem.Calls Builtin Builtin.ObjectAttr
set_option maxRecDepth 100000
set_option maxHeartbeats 1000000
namespace Mine
def IsTab (h : Heap) (c P : Addr) (z : Array Value) : Prop := CodeHd h c P ∧ h.get? P = some (tabObj z) ∧ TriplesOk z.toList
theorem IsTab.code {h : Heap} {c P : Addr} {z : Array Value} (x : IsTab h c P z) : h.IsCode c P z := x.1.code x.2.1 x.2.2
theorem IsTab.keeps {h h' : Heap} {c P : Addr} {z : Array Value} (x : IsTab h c P z) (k : ∀ b o, h.get? b = some o → h'.get? b = some o) : IsTab h' c P z := ⟨x.1.keeps k, k _ _ x.2.1, x.2.2⟩
theorem IsTab.push {h : Heap} {c P : Addr} {z : Array Value} (x : IsTab h c P z) (o : Obj) : IsTab (h.push o) c P z := x.keeps fun _ _ e => Heap.get?_push_of_some o e
theorem IsTab.lt {h : Heap} {c P : Addr} {z : Array Value} (x : IsTab h c P z) : c < h.objs.size ∧ P < h.objs.size := x.code.lt
theorem IsTab.of {h : Heap} {c P : Addr} {z : Array Value} (x : h.IsCode c P z) (y : h.TableAt c P z) : IsTab h c P z := by
  refine ⟨CodeHd.of x y, y.2, ?_⟩
  obtain ⟨o, v9, file, tf, flags, tg, inF, text, tt, op', ho', hd, h11, h2, h7, h9, h10, hop', hpd', htr, hne⟩ := x
  exact htr
theorem genCodeT {M : Model} {A : Around} {E : Value → Shared → Prop} {s : Shared} {env : Env} {c P : Addr} {z : Array Value} {pos : Pos} {qualname : Str} {scope : Scope} {Q : Value → Shared → Prop} (hc : env.code = .ref c) (hok : IsTab s.heap c P z)
    (hQ : ∀ code h' tk z', Heap.ExtBut P s.heap h' → IsTab h' c P z' → Q code { s with heap := h', toks := tk }) : wpAny M A (genexprCode env pos qualname scope) Q E s := by
  cases hnf : codeAmong pos z.toList with
  | some cv => exact wpAny_genexprCode_hit hc hok.code hnf (hQ cv s.heap s.toks z (Heap.ExtBut.refl _ _) hok)
  | none => exact wpAny_genexprCodeX hc hok.code (hok.1.tab hok.2.1) hnf fun c' h' tk hx _ _ hi _ ht _ => hQ _ h' tk _ hx (IsTab.of hi ht)
def PairAt (h : Heap) (v : Value) (p : Str × Str) : Prop := ∃ T tx ty, v = .ref T ∧ h.IsTuple T #[.str p.1 tx, .str p.2 ty]
structure Prs (h : Heap) (vs : List Value) (ps : List (Str × Str)) : Prop where
  len : vs.length = ps.length
  at_ : ∀ (j : Nat) (p : Str × Str), ps[j]? = some p → ∃ v, vs[j]? = some v ∧ PairAt h v p
theorem passing_all (n : Nat) : passing (fun _ => true) n 0 = List.range n := by simp [passing]
theorem walks_weaken {prog : Program} {w : World} {A : Around} {I : Addr} {fp wr : List Addr} {G : Array GenState → Array GenState → Prop} {n : Nat} {P P' : Nat → Value → Prop} {St : Nat → Shared → Prop}
    (W : WalksS prog w A I fp wr G n P St) (h : ∀ j v, j < n → P j v → P' j v) : WalksS prog w A I fp wr G n P' St :=
  ⟨W.sub, W.grefl, W.gtrans, W.frame, fun i s Q E hi st hQ => W.item i s Q E hi st fun v s' hP st' hm => hQ v s' (h i v hi hP) st' hm, W.done, W.self⟩
section
variable {w : World} {A : Around} {s : Shared} {mg mb m : Str → Option Value} {mean : ExcName → Option Value} {G : Heap} {E : Value → Shared → Prop} {L a d c P : Addr} {scope : Scope} {env : Env} {k : Int}
theorem acc_gen {elt : PySem.Expr} {vs : List Value} {ps : List (Str × Str)} {pa pb pt pi pos : Pos} {kt : Nat} {pz : Array Value} {Fv : Str × Str → Value → Prop} {Q : Value → Shared → Prop}
    (X : (KF w).In G) (T : TopV mean mg mb G) (F : Fr G L s.heap m) (hGP : G.get? P = none) (x : Acc w s.heap a d vs k) (hp : Prs s.heap vs ps)
    (hself : m (Str.ofString "self") = some (.ref a)) (hkf : env.scope.kind = .function) (hks : env.kindOf (Str.ofString "self") = some .local) (hloc : env.locals = L) (hg : env.globals = mainGlobals)
    (hcode : env.code = .ref c) (hok : IsTab s.heap c P pz)
    (hh : A.handled = none) (hco : scope.isCoroutine = false) (hclos : closureFor scope env = pure []) (hcell : ∀ y ∈ scope.names, y.2 ≠ .cell) (h0 : scope.names.lookup (".0" : Str) = some NameKind.local)
    (hxa : scope.names.lookup (Str.ofString "fws") = some .local) (hxb : scope.names.lookup (Str.ofString "part") = some .local) (hkind : scope.kind = .function) (hroom : A.depth < recursionLimit)
    (hs : ∀ x, genFold (nm "self" pi) env x = pure x)
    (helt : ∀ (A' : Around) E' C code (s₂ : Shared) m₂ p tx ty, p ∈ ps → Fr G C s₂.heap m₂ → m₂ (Str.ofString "fws") = some (.str p.1 tx) → m₂ (Str.ofString "part") = some (.str p.2 ty) →
      wpAny (model PG w) A' (eval elt (genEnv scope [] C code builtinsNs env)) (fun v s₃ => Fv p v ∧ Keeps s₂ s₃) E' s₂)
    (h : ∀ g s₅, (∀ b o, b ≠ P → s.heap.get? b = some o → s₅.heap.get? b = some o) → (∃ pz', IsTab s₅.heap c P pz') → (AllBare s.gens → AllBare s₅.gens) → s₅.os = s.os → s₅.drawn = s.drawn →
      Gen PG w A L g ps.length (fun j v => ∃ p, ps[j]? = some p ∧ Fv p v) s₅ → Q (.ref g) s₅) :
    wpAny (model PG w) A (eval (.GeneratorExp elt [⟨.Tuple [nm "fws" pa, nm "part" pb] kt pt, nm "self" pi, [], 0⟩] scope pos) env) Q E s := by
  refine wpAny_GeneratorExp_walksQT hh hco hclos hcell h0 hxa hxb (by decide) hkind hroom ?_ hs
  refine wpAny_Name (wpAny_loadName_local hkf hks (hloc ▸ F.ns) hself ?_) (by decide)
  refine acc_iter (X.keeps F.keep) x ?_
  have k1 : ∀ b o, s.heap.get? b = some o → (s.heap.push (itO a 0)).get? b = some o := fun b o e => Heap.get?_push_of_some _ e
  refine ⟨T.nolimit.keeps fun b o e => k1 b o (F.keep b o e), ?_⟩
  refine genCodeT hcode (hok.push _) fun code h' tk pz' hx hok' => ?_
  obtain ⟨bm, ob, B⟩ := bmod_of_top T
  obtain ⟨op, hop, hpd⟩ : ∃ op, s.heap.get? P = some op ∧ op.data = .fields pz := ⟨_, hok.2.1, rfl⟩
  have hPl : P < s.heap.objs.size := Heap.lt_size hop
  have hsz : s.heap.objs.size ≤ h'.objs.size := Nat.le_of_lt (Heap.lt_size (hx _ _ (Nat.ne_of_gt hPl) (Heap.get?_push_size _ rfl)))
  have k2 : ∀ b o, b ≠ P → s.heap.get? b = some o → h'.get? b = some o := fun b o hb e => hx b o hb (k1 b o e)
  have kG : ∀ b o, G.get? b = some o → h'.get? b = some o := fun b o e => k2 b o (fun z => by rw [z, hGP] at e; cases e) (F.keep b o e)
  have B' := B.keeps kG
  refine wpAny_builtinsFor (hg ▸ B'.ns) B'.name B'.ne B'.obj B'.cls B'.dict B'.data ?_
  have ch : ∀ j : Nat, ∃ t : Addr × Tok × Tok, ∀ p, ps[j]? = some p → vs[j]? = some (.ref t.1) ∧ s.heap.IsTuple t.1 #[.str p.1 t.2.1, .str p.2 t.2.2] := fun j => by
    cases e : ps[j]? with
    | none => exact ⟨(0, 0, 0), fun p z => nomatch z⟩
    | some p =>
      obtain ⟨v, hv, T, tx, ty, rfl, ht⟩ := hp.at_ j p e
      exact ⟨(T, tx, ty), fun p' z => by cases z; exact ⟨hv, ht⟩⟩
  obtain ⟨t, ht⟩ := Classical.skolem.mp ch
  have ex : ∀ j, j < vs.length → ∃ p, ps[j]? = some p := fun j hj => ⟨_, List.getElem?_eq_getElem (hp.len ▸ hj)⟩
  let vals : Nat → Array Value := fun j => match ps[j]? with | some p => #[.str p.1 (t j).2.1, .str p.2 (t j).2.2] | none => #[.none, .none]
  have hva : ∀ j p, ps[j]? = some p → vals j = #[.str p.1 (t j).2.1, .str p.2 (t j).2.2] := fun j p e => by simp only [vals, e]
  obtain ⟨⟨n, ho⟩, _, hsm⟩ := id x
  have hTl : ∀ j, j < vs.length → (t j).1 < s.heap.objs.size := fun j hj => by
    obtain ⟨p, e⟩ := ex j hj
    obtain ⟨_, o, e', _⟩ := ht j p e
    exact Heap.lt_size e'
  have W := fun (A' : Around) (hA : A'.handled = none) => (accPairs (w := w) hA s.heap.objs.size a d (Nat.ne_of_lt (Heap.lt_size ho)) n vs (fun j => (t j).1) vals
    (fun j hj => by obtain ⟨p, e⟩ := ex j hj; exact (ht j p e).1) (fun j hj => Nat.ne_of_lt (hTl j hj))).bound
  refine ⟨s.heap.objs.size, _, _, _, _, _, _, fun _ => true, fun j v => ∃ p, ps[j]? = some p ∧ Fv p v, rfl, W, ?_, ?_, ?_, ?_, ?_, ?_, ?_⟩
  · rintro i v ⟨hi, rfl⟩
    obtain ⟨p, e⟩ := ex i hi
    exact ⟨_, _, hva i p e⟩
  · refine ⟨⟨_, hx _ _ (Nat.ne_of_gt hPl) (Heap.get?_push_size _ rfl), rfl, rfl⟩, k2 _ _ (fun z => by rw [z, hop] at ho; cases ho; cases hpd) ho, fun j hj => ?_⟩
    obtain ⟨p, e⟩ := ex j hj
    rw [hva j p e]
    obtain ⟨_, o, e1, e2, n2, e3⟩ := ht j p e
    exact ⟨o, k2 _ _ (fun z => by have z : (t j).1 = P := z; rw [z, hop] at e1; cases e1; rw [hpd] at e3; cases e3) e1, e2, n2, e3⟩
  · intro b hb
    rcases List.mem_cons.mp hb with rfl | hb
    · exact Heap.lt_size (hx _ _ (Nat.ne_of_gt hPl) (Heap.get?_push_size _ rfl))
    · rcases List.mem_cons.mp hb with rfl | hb
      · exact Heap.lt_size (k2 _ _ (fun z => by rw [z, hop] at ho; cases ho; cases hpd) ho)
      · obtain ⟨j, hj, rfl⟩ := List.mem_map.mp hb
        exact Nat.lt_of_lt_of_le (hTl j (List.mem_range.mp hj)) hsz
  · exact T.nolimit.keeps kG
  · intro hm
    rcases List.mem_cons.mp hm with e | e
    · obtain ⟨_, hn, _⟩ := T.nolimit
      exact absurd (e ▸ Heap.lt_size (F.keep _ _ hn.choose_spec.choose_spec.choose_spec.1)) (Nat.lt_irrefl _)
    · cases e
  · intro href hre
    refine ⟨fun A' E' i va vb s₂ m₂ _ _ _ _ _ _ => wpAny_pure ⟨rfl, ⟨_, _, rfl, fun _ _ e => e⟩⟩, fun A' E' i va vb s₂ m₂ hA hPt _ hns ha hb hkp => ?_⟩
    obtain ⟨hi, e0⟩ := hPt
    obtain ⟨p, e⟩ := ex i hi
    rw [hva i p e] at e0
    obtain ⟨rfl, rfl⟩ : va = .str p.1 (t i).2.1 ∧ vb = .str p.2 (t i).2.2 := by simpa using congrArg Array.toList e0
    refine wpAny_mono (helt A' E' h'.objs.size code s₂ m₂ p _ _ (List.mem_of_getElem? e) ⟨hns, fun b o eb => ?_, ?_⟩ ha hb) (fun v s₃ z => ⟨⟨p, e, z.1⟩, z.2⟩) fun _ _ z => z
    · have e1 := kG b o eb
      refine hkp b (List.mem_range.mpr (Heap.lt_size e1)) (fun hm => ?_) o (hre b o e1)
      rcases List.mem_cons.mp hm with z | z
      · exact absurd (z ▸ Heap.lt_size (F.keep b o eb)) (Nat.lt_irrefl _)
      · cases z
    · exact Nat.le_trans F.above (Nat.le_trans (Nat.le_of_lt F.ns.lt) hsz)
  · intro g h₅ tk' gs hgb hag hsz₅ hk₅ W' hat
    have e9 : (passing (fun _ => true) vs.length 0) = List.range ps.length := by rw [passing_all, hp.len]
    rw [e9, List.length_range] at W'
    have W2 := walks_weaken (P' := fun j v => ∃ p, ps[j]? = some p ∧ Fv p v) W' (fun j v hj z => by
      obtain ⟨i, hi, q⟩ := z
      rw [List.getElem?_range hj] at hi
      cases hi; exact q)
    refine h g _ (fun b o hb e => hk₅ b o (k2 b o hb e)) ⟨pz', hok'.keeps hk₅⟩ (fun q => q.push hgb) rfl rfl (Exists.intro _ (Exists.intro _ (Exists.intro _ (Exists.intro _ ⟨W2, hat, (fun i s' st => st.1.typeIs), List.mem_cons_self, ?_, ?_⟩))))
    · intro b hb
      show b < h₅.objs.size
      rw [hsz₅]
      rcases List.mem_cons.mp hb with rfl | hb
      · exact Nat.lt_succ_self _
      · rcases List.mem_cons.mp hb with rfl | hb
        · exact Nat.lt_succ_of_lt hag
        · exact Nat.lt_succ_of_lt (Nat.lt_trans (List.mem_range.mp hb) hag)
    · intro b hb
      rcases List.mem_cons.mp hb with rfl | hb
      · exact Nat.lt_of_lt_of_le F.ns.lt hsz
      · rcases List.mem_cons.mp hb with rfl | hb
        · exact F.ns.lt
        · cases hb
end
end Mine
end

section
open PySem PySem.W PyProof.Rows PySem.Calls Builtin Builtin.ObjectAttr
set_option maxRecDepth 100000
set_option maxHeartbeats 1000000
namespace Mine
def shiftP (P : Nat → Value → Prop) : Nat → Value → Prop
  | 0, _ => False
  | i + 1, v => P i v
def shiftS (St : Nat → Shared → Prop) : Nat → Shared → Prop
  | 0, _ => False
  | i + 1, s => St i s
def shiftV (k : Int) (val : Nat → Int) : Nat → Int
  | 0 => k
  | i + 1 => val i
theorem preSum_shift (k : Int) (val : Nat → Int) : ∀ n, preSum (shiftV k val) (n + 1) = k + preSum val n
  | 0 => by simp [preSum, shiftV]
  | n + 1 => by rw [preSum, preSum_shift k val n, preSum]; simp [shiftV]; omega
theorem walks_shift {prog : Program} {w : World} {A : Around} {I : Addr} {fp wr : List Addr} {G : Array GenState → Array GenState → Prop} {n : Nat} {P : Nat → Value → Prop} {St : Nat → Shared → Prop}
    (W : WalksS prog w A I fp wr G n P St) : WalksS prog w A I fp wr G (n + 1) (shiftP P) (shiftS St) where
  sub := W.sub
  grefl := W.grefl
  gtrans := W.gtrans
  frame := fun i s h' tk st ht hk => by
    cases i with
    | zero => exact st.elim
    | succ i => exact W.frame i s h' tk st ht hk
  item := fun i s Q E hi st hQ => by
    cases i with
    | zero => exact st.elim
    | succ i => exact W.item i s Q E (by omega) st fun v s' hP st' hm => hQ v s' hP st' hm
  done := fun s Q E st hQ => W.done s Q E st hQ
  self := fun i s Q E st hQ => by
    cases i with
    | zero => exact st.elim
    | succ i => exact W.self i s Q E st hQ
theorem args_sum2 (a b : Value) : argsOk "sum" ⟨[a, b], []⟩ := by unfold argsOk; kernel_rfl
section
variable {prog : Program} {w : World} {A : Around} {s : Shared} {E : Value → Shared → Prop} {L g : Addr} {k : Int} {n : Nat} {F : Nat → Value → Prop} {Q : Value → Shared → Prop} {tk : Tok}
theorem sum_start (X : Gen prog w A L g n F s) (val : Nat → Int) (hval : ∀ j v, F j v → ∃ t, v = .int (val j) t) (hk : 0 ≤ k ∧ k ≤ 1000)
    (hQ : ∀ s' t', (∀ b o, b ≤ L → s.heap.get? b = some o → s'.heap.get? b = some o) → (AllBare s.gens → AllBare s'.gens) → s'.os = s.os → s'.drawn = s.drawn → Q (.int (k + preSum val n) t') s') :
    wpAny (model prog w) A (call (.builtin "sum") [.ref g, .int k tk]) Q E s := by
  obtain ⟨fp, wr, gg, St, W, hst, _, _, hfp, hwr⟩ := X
  have W := W.in4_1
  refine call_function_tree PySem.F.kind_sum PySem.F.plain_sum PySem.F.entry_sum (args_sum2 _ _) ?_
  unfold Builtin.«sum»
  simp only [List.length_cons, List.length_nil]
  rw [if_neg (by decide)]
  refine wpAny_bind (wpAny_of_eq (show Builtin.Builtins.bindParams "sum" ["start"] 0 ⟨[.int k tk], []⟩ = pure [some (.int k tk)] from rfl) ?_)
  refine wpAny_bind (W.self 0 _ _ _ hst ?_)
  dsimp only
  rw [if_pos (by show (decide (-(2 ^ 63) ≤ k) && decide (k < 2 ^ 63)) = true; simp; omega)]
  refine wpAny_bind (wpAny_rule (wpAny_bind (wpAny_mkInt (wpAny_bind (wpAny_pure ?_)))))
  simp only [List.forIn_cons, List.forIn_nil]
  refine wpAny_bind (wpAny_bind (wpAny_bind (wpAny_isInstance (T := "int") (b := false) (typeIs_int _ _ _) PySem.sub_int_str ?_)))
  simp only [Bool.false_eq_true, if_false]
  refine wpAny_pure (wpAny_bind (wpAny_bind (wpAny_isInstance (T := "int") (b := false) (typeIs_int _ _ _) PySem.sub_int_bytes ?_)))
  simp only [Bool.false_eq_true, if_false]
  refine wpAny_pure (wpAny_bind (wpAny_bind (wpAny_isInstance (T := "int") (b := false) (typeIs_int _ _ _) PySem.sub_int_bytearray ?_)))
  simp only [Bool.false_eq_true, if_false]
  refine wpAny_pure (wpAny_pure ?_)
  refine wpAny_bind (wpAny_newObj_type ?_)
  have hSf : s.heap.objs.size ∉ fp := fun hm => Nat.lt_irrefl _ (hfp _ hm)
  refine wpAny_pure ⟨plainId_quiet PySem.F.plain_sum_loop _, codeAny_sum_loopAnyS (walks_shift W) (shiftV k val) ?_ s.heap.objs.size hSf n 1 _ s.toks 0 0 (.inl rfl) (by omega) (by omega)
    (W.frame 0 s _ _ hst (by first | exact Nat.le_refl _ | exact Nat.le_succ _ | omega) fun b _ o e => Heap.get?_push_of_some _ e) ?_ fun s' t' hm => ?_⟩
  · intro i v hv
    cases i with
    | zero => exact hv.elim
    | succ i => exact hval i v hv
  · have e : preSum (shiftV k val) 1 = k := by simp [preSum, shiftV]
    rw [e]
    exact Heap.get?_push_size _ rfl
  · rw [preSum_shift]
    have hm' := hm.drop_new (by first | exact Nat.le_refl _ | exact Nat.le_succ _ | omega)
    exact hQ s' t' (fun b o hb e => hm'.heap b o (fun q => Nat.lt_irrefl _ (Nat.lt_of_lt_of_le (hwr b q) hb)) e) (fun q => q.movedS hm') hm'.os hm'.drawn
theorem join_gen {sep : Str} {t : Tok} (X : Gen prog w A L g n F s) (tx : Nat → Str) (htx : ∀ j v, F j v → ∃ u, v = .str (tx j) u) (hok : JoinOk sep ((List.range n).map tx) = true) (hsz : n ≤ sizeLine)
    (hQ : ∀ s' t', (∀ b o, b ≤ L → s.heap.get? b = some o → s'.heap.get? b = some o) → (AllBare s.gens → AllBare s'.gens) → s'.os = s.os → s'.drawn = s.drawn → Q (.str (Txt.join sep ((List.range n).map tx)) t') s') :
    wpAny (model prog w) A (call (.builtin "str.join") [.str sep t, .ref g]) Q E s := by
  obtain ⟨fp, wr, gg, St, W, hst, hT, ha, hfp, hwr⟩ := X
  have W := W.in4_2
  refine SC.joinGen W hT hst hfp ha (fun j v hv => let ⟨u, e⟩ := htx j v hv; ⟨_, u, e⟩) (fun s' lt hm hacc => ?_) hsz
  have hln : lt.length = n := by simpa [strValues] using hacc.1
  have hl : lt.map (·.1) = (List.range n).map tx := by
    refine List.ext_getElem (by simp [hln]) fun j h1 h2 => ?_
    have hj : j < lt.length := by simpa using h1
    obtain ⟨u, hv⟩ := htx j _ (hacc.2 j (.str lt[j].1 lt[j].2) (by simp [strValues, List.getElem?_eq_getElem hj]))
    injection hv with h3 _
    simp [h3]
  rw [hl]
  have hb9 : AllBare s.gens → AllBare s'.gens := fun q => q.movedS hm
  exact ⟨hok, fun t' k' => hQ { s' with toks := k' } t' (fun b o hb e => hm.heap b o (fun q => Nat.lt_irrefl _ (Nat.lt_of_lt_of_le (hwr b q) hb)) e) hb9 hm.os hm.drawn⟩
end
end Mine
end

section
open PySem PySem.W PyProof.Rows PySem.Calls Builtin Builtin.ObjectAttr
set_option maxRecDepth 100000
set_option maxHeartbeats 4000000
namespace Mine
def lens (ps : List (Str × Str)) : Nat := (ps.map fun p => p.1.length + p.2.length).sum
theorem gen_toks {prog : Program} {w : World} {A : Around} {L g : Addr} {n : Nat} {F : Nat → Value → Prop} {s : Shared} {tk : Nat} (X : Gen prog w A L g n F s) (h : s.toks ≤ tk) : Gen prog w A L g n F { s with toks := tk } := by
  obtain ⟨fp, wr, gg, St, W, hst, hT, ha, hfp, hwr⟩ := X
  exact ⟨fp, wr, gg, St, W, W.frame 0 s s.heap tk hst h fun _ _ _ e => e, hT, ha, hfp, hwr⟩
theorem lens_snoc (l : List (Str × Str)) (p : Str × Str) : lens (l ++ (some p).toList) = lens l + (p.1.length + p.2.length) := by
  unfold lens
  rw [List.map_append, List.sum_append]
  simp
theorem preSum_lens (ps : List (Str × Str)) (val : Nat → Int) (hv : ∀ (j : Nat) p, ps[j]? = some p → val j = p.1.length + p.2.length) : preSum val ps.length = lens ps := by
  have : ∀ n, n ≤ ps.length → preSum val n = lens (ps.take n) := by
    intro n
    induction n with
    | zero => intro _; simp [preSum, lens]
    | succ n ih =>
      intro hn
      have e : ps[n]? = some ps[n] := List.getElem?_eq_getElem hn
      have e2 : lens (ps.take n ++ (some ps[n]).toList) = lens (ps.take n) + (ps[n].1.length + ps[n].2.length) := lens_snoc _ _
      rw [preSum, ih (by omega), hv n _ e, List.take_succ, e, e2]
      omega
  rw [this _ (Nat.le_refl _), List.take_length]
section
variable {w : World} {A : Around} {s : Shared} {a d P : Addr} {vs : List Value} {k : Int} {R : Result → Shared → Prop} {mg mb : Str → Option Value} {mean : ExcName → Option Value} {h₀ : Heap} {E : Value → Shared → Prop} {ps : List (Str × Str)} {pz : Array Value}
theorem len_code (g : Gr w mean mg mb h₀ s.heap) (hroom : A.depth + 1 < recursionLimit) (hh : A.handled = none) (xa : Acc w s.heap a d vs k) (hp : Prs s.heap vs ps) (hsm : ∀ p ∈ ps, p.1.length ≤ 1000 ∧ p.2.length ≤ 1000) (hk : 0 ≤ k ∧ k ≤ 1000)
    (hGP : h₀.get? P = none) (hok : IsTab s.heap 60 P pz)
    (h : ∀ s' t, (∀ b o, b ≠ P → s.heap.get? b = some o → s'.heap.get? b = some o) → (∃ pz', IsTab s'.heap 60 P pz') → (AllBare s.gens → AllBare s'.gens) → s'.os = s.os → s'.drawn = s.drawn → R (.ok (.ret (.int (k + lens ps) t))) s') :
    codeAny (model PySem.Challenge.rw_nb0052_01.row.prog w) A (.call (.ref 61) ⟨[.ref a], []⟩) R s := by
  have X := g.X.keeps g.keep
  have T := g.T.keeps g.keep
  have gh := g.hide [P] (by intro b hb; simp only [List.mem_cons, List.not_mem_nil, or_false] at hb; rcases hb with rfl; assumption)
  revert X; k_fill; intro X
  k_dflt (refine' enterP X T (Nat.lt_of_succ_lt hroom) ?k6 ?k7 ?k9 ?kB ?_ ?c1 ?c2 ?c3 ?c4; (case k6 => k_is); (case k7 => k_is); (case k9 => exact BindsTo.of_eq rfl); (case kB => exact locs rfl); (case c1 => decide); (case c2 => exact rfl); (case c3 => exact rfl); (case c4 => exact rfl))
  intro h₁ F
  have F1 := fr_hide [P] F
  have GX := gh.X
  have GT := gh.T
  have NE : News (hideAll s.heap [P]) s.heap.objs.size h₁ [] := News.nil
  have x1 : Acc w h₁ a d vs k := xa.keeps F.keep
  have p1 : Prs h₁ vs ps := ⟨hp.len, fun j p e => by obtain ⟨v, e1, T9, tx, ty, e2, o, e3, e4⟩ := hp.at_ j p e; exact ⟨v, e1, T9, tx, ty, e2, o, F.keep _ _ e3, e4⟩⟩
  have hok1 := hok.keeps F.keep
  clear NE
  refine wpAny_execs_cons (wpAny_Return_some ?_)
  refine wpAny_Call_NameR ?_
  k_steps
  refine acc_gen (s := ⟨_, _, _, _, _⟩) GX GT F1 (hideAll_none _ (by simp)) x1 p1 rfl rfl rfl rfl rfl rfl hok1 hh rfl rfl (by decide) rfl rfl rfl rfl (by show _ + 1 < _; omega) (fun _ => rfl) (Fv := fun p v => ∃ t, v = .int (p.1.length + p.2.length) t) (fun A' E' C code s₂ m₂ p tx ty hm F2 ha hb => elt_len GX GT F2 ha hb (hsm p hm).1 (hsm p hm).2 rfl rfl rfl rfl rfl) ?_
  intro gg s₅ kk hc bare ho hdr X5
  have F5 : Fr (hideAll s.heap [P]) s.heap.objs.size s₅.heap _ := ⟨F1.ns.at' fun o e => kk _ o (Nat.ne_of_gt (hok.lt.2)) e, fun b o e => kk b o (fun z => by rw [z, hideAll_none _ (by simp)] at e; cases e) (F1.keep b o e), F1.above⟩
  have a5 : ∀ b o, b ≠ P → s.heap.get? b = some o → s₅.heap.get? b = some o := fun b o hb e => kk b o hb (F.keep b o e)
  k_steps
  obtain ⟨op, hop, hpd⟩ : ∃ op, s.heap.get? P = some op ∧ op.data = .fields pz := ⟨_, hok.2.1, rfl⟩
  have x5 : Acc w s₅.heap a d vs k := by
    obtain ⟨⟨n, e1⟩, ⟨tk, tn, n', e2⟩, e3⟩ := xa
    exact ⟨⟨n, a5 _ _ (fun z => by rw [z, hop] at e1; cases e1; cases hpd) e1⟩, ⟨tk, tn, n', a5 _ _ (fun z => by rw [z, hop] at e2; cases e2; cases hpd) e2⟩, e3⟩
  refine acc_size (GX.keeps F5.keep) x5 fun tk => ?_
  k_steps
  refine sum_start (gen_toks X5 (Nat.le_succ _)) (fun j => (ps[j]?.elim 0 fun p => (p.1.length + p.2.length : Int))) ?_ hk ?_
  · rintro j v ⟨p, e, t, rfl⟩
    exact ⟨t, by simp [e]⟩
  · intro s' t' k6 b6 o6 d6
    rw [preSum_lens ps _ (fun j p e => by simp [e])]
    have code' : ∃ pz', IsTab s'.heap 60 P pz' := by
      obtain ⟨pz', ⟨o, v9, file, tf, flags, tg, inF, text, tt, e1, r1⟩, hP1, ht1⟩ := hc
      have l60 : 60 < s.heap.objs.size := hok.lt.1
      exact ⟨pz', ⟨o, v9, file, tf, flags, tg, inF, text, tt, k6 _ _ (Nat.le_of_lt l60) e1, r1⟩, k6 _ _ (Nat.le_of_lt (Heap.lt_size hop)) hP1, ht1⟩
    exact h s' t' (fun b o hb e => k6 b o (Nat.le_of_lt (Heap.lt_size e)) (a5 b o hb e)) code' (fun q => b6 (bare q)) (o6.trans ho) (d6.trans hdr)
end
end Mine
end

section
open PySem PySem.W PyProof.Rows PySem.Calls Builtin Builtin.ObjectAttr
set_option maxRecDepth 100000
set_option maxHeartbeats 4000000
namespace Mine
def cat (ps : List (Str × Str)) : Str := Txt.join (Str.ofString "") (ps.map fun p => p.1 ++ p.2)
theorem cat_sum : ∀ ps : List (Str × Str), (∀ p ∈ ps, p.1.length ≤ 1000 ∧ p.2.length ≤ 1000) → ((ps.map fun p => p.1 ++ p.2).map (·.length)).sum ≤ ps.length * 2000
  | [], _ => by simp
  | p :: ps, h => by
    have h1 := cat_sum ps fun q hq => h q (List.mem_cons_of_mem _ hq)
    have h2 := h p List.mem_cons_self
    have h3 : (p.1 ++ p.2).length = p.1.length + p.2.length := by first | exact Str.length_append _ _ | exact PySem.StrLaws.length_append _ _ | exact PySem.Str.length_append _ _
    rw [List.map_cons, List.map_cons, List.sum_cons, List.length_cons, h3]
    omega
theorem range_map_get (ps : List (Str × Str)) (f : Str × Str → Str) : (List.range ps.length).map (fun j => ps[j]?.elim (Str.ofString "") f) = ps.map f := by
  refine List.ext_getElem (by simp) fun j h1 h2 => ?_
  have : j < ps.length := by simpa using h2
  simp [this]
section
variable {w : World} {A : Around} {s : Shared} {a d P : Addr} {vs : List Value} {k : Int} {R : Result → Shared → Prop} {mg mb : Str → Option Value} {mean : ExcName → Option Value} {h₀ : Heap} {E : Value → Shared → Prop} {ps : List (Str × Str)} {pz : Array Value}
theorem str_code (g : Gr w mean mg mb h₀ s.heap) (hroom : A.depth + 1 < recursionLimit) (hh : A.handled = none) (xa : Acc w s.heap a d vs k) (hp : Prs s.heap vs ps) (hsm : ∀ p ∈ ps, p.1.length ≤ 1000 ∧ p.2.length ≤ 1000) (hn : ps.length ≤ 1000)
    (hGP : h₀.get? P = none) (hok : IsTab s.heap 67 P pz)
    (h : ∀ s' t, (∀ b o, b ≠ P → s.heap.get? b = some o → s'.heap.get? b = some o) → (∃ pz', IsTab s'.heap 67 P pz') → (AllBare s.gens → AllBare s'.gens) → s'.os = s.os → s'.drawn = s.drawn → R (.ok (.ret (.str (cat ps) t))) s') :
    codeAny (model PySem.Challenge.rw_nb0052_01.row.prog w) A (.call (.ref 68) ⟨[.ref a], []⟩) R s := by
  have X := g.X.keeps g.keep
  have T := g.T.keeps g.keep
  have gh := g.hide [P] (by intro b hb; simp only [List.mem_cons, List.not_mem_nil, or_false] at hb; rcases hb with rfl; assumption)
  revert X; k_fill; intro X
  k_dflt (refine' enterP X T (Nat.lt_of_succ_lt hroom) ?k6 ?k7 ?k9 ?kB ?_ ?c1 ?c2 ?c3 ?c4; (case k6 => k_is); (case k7 => k_is); (case k9 => exact BindsTo.of_eq rfl); (case kB => exact locs rfl); (case c1 => decide); (case c2 => exact rfl); (case c3 => exact rfl); (case c4 => exact rfl))
  intro h₁ F
  have F1 := fr_hide [P] F
  have GX := gh.X
  have GT := gh.T
  have NE : News (hideAll s.heap [P]) s.heap.objs.size h₁ [] := News.nil
  have x1 : Acc w h₁ a d vs k := xa.keeps F.keep
  have p1 : Prs h₁ vs ps := ⟨hp.len, fun j p e => by obtain ⟨v, e1, T9, tx, ty, e2, o, e3, e4⟩ := hp.at_ j p e; exact ⟨v, e1, T9, tx, ty, e2, o, F.keep _ _ e3, e4⟩⟩
  have hok1 := hok.keeps F.keep
  clear NE
  refine wpAny_execs_cons (wpAny_Return_some ?_)
  k_steps
  refine acc_gen (s := ⟨_, _, _, _, _⟩) GX GT F1 (hideAll_none _ (by simp)) x1 p1 rfl rfl rfl rfl rfl rfl hok1 hh rfl rfl (by decide) rfl rfl rfl rfl (by show _ + 1 < _; omega) (fun _ => rfl) (Fv := fun p v => ∃ t, v = .str (p.1 ++ p.2) t) (fun A' E' C code s₂ m₂ p tx ty hm F2 ha hb => elt_join GX GT F2 ha hb (hsm p hm).1 (hsm p hm).2 rfl rfl rfl rfl rfl rfl) ?_
  intro gg s₅ kk hc bare ho hdr X5
  have F5 : Fr (hideAll s.heap [P]) s.heap.objs.size s₅.heap _ := ⟨F1.ns.at' fun o e => kk _ o (Nat.ne_of_gt (hok.lt.2)) e, fun b o e => kk b o (fun z => by rw [z, hideAll_none _ (by simp)] at e; cases e) (F1.keep b o e), F1.above⟩
  have a5 : ∀ b o, b ≠ P → s.heap.get? b = some o → s₅.heap.get? b = some o := fun b o hb e => kk b o hb (F.keep b o e)
  obtain ⟨op, hop, hpd⟩ : ∃ op, s.heap.get? P = some op ∧ op.data = .fields pz := ⟨_, hok.2.1, rfl⟩
  refine spliced_none ?_
  refine join_gen X5 (fun j => ps[j]?.elim (Str.ofString "") fun p => p.1 ++ p.2) ?_ ?_ ?_ ?_
  · rintro j v ⟨p, e, t, rfl⟩
    exact ⟨t, by simp [e]⟩
  · rw [range_map_get ps]
    refine joinOk_of ?_
    have h1 := cat_sum ps hsm
    have h2 : (Str.ofString "").length = 0 := rfl
    rw [h2, Nat.mul_zero, Nat.add_zero]
    have : ps.length * 2000 ≤ 1000 * 2000 := Nat.mul_le_mul_right _ hn
    omega
  · exact Nat.le_trans hn (by decide)
  · intro s' t' k6 b6 o6 d6
    rw [range_map_get ps]
    have code' : ∃ pz', IsTab s'.heap 67 P pz' := by
      obtain ⟨pz', ⟨o, v9, file, tf, flags, tg, inF, text, tt, e1, r1⟩, hP1, ht1⟩ := hc
      have l60 : 67 < s.heap.objs.size := hok.lt.1
      exact ⟨pz', ⟨o, v9, file, tf, flags, tg, inF, text, tt, k6 _ _ (Nat.le_of_lt l60) e1, r1⟩, k6 _ _ (Nat.le_of_lt (Heap.lt_size hop)) hP1, ht1⟩
    exact h s' t' (fun b o hb e => k6 b o (Nat.le_of_lt (Heap.lt_size e)) (a5 b o hb e)) code' (fun q => b6 (bare q)) (o6.trans ho) (d6.trans hdr)
end
end Mine
end

section
open PySem PySem.W PyProof.Rows PySem.Calls Builtin Builtin.ObjectAttr
set_option maxRecDepth 100000
set_option maxHeartbeats 4000000
namespace Mine
structure Wd (w : World) (mean : ExcName → Option Value) (mg mb : Str → Option Value) (h₀ : Heap) (P Q : Addr) (s : Shared) : Prop where
  g : Gr w mean mg mb h₀ s.heap
  nP : h₀.get? P = none
  nQ : h₀.get? Q = none
  ne : P ≠ Q
  cP : ∃ z, IsTab s.heap 60 P z
  cQ : ∃ z, IsTab s.heap 67 Q z
  bare : AllBare s.gens
structure Stp (P Q : Addr) (s s' : Shared) : Prop where
  keep : ∀ b o, b ≠ P → b ≠ Q → s.heap.get? b = some o → s'.heap.get? b = some o
  os : s'.os = s.os
  drawn : s'.drawn = s.drawn
theorem code_at {h h' : Heap} {c P : Addr} {z : Array Value} (x : IsTab h c P z) (hc : ∀ o, h.get? c = some o → h'.get? c = some o) (hP : ∀ o, h.get? P = some o → h'.get? P = some o) : IsTab h' c P z := by
  obtain ⟨⟨o, v9, file, tf, flags, tg, inF, text, tt, e1, r1⟩, hP1, ht1⟩ := x
  exact ⟨⟨o, v9, file, tf, flags, tg, inF, text, tt, hc _ e1, r1⟩, hP _ hP1, ht1⟩
theorem code_tab {h : Heap} {c P : Addr} {z : Array Value} (x : IsTab h c P z) : ∃ op, h.get? P = some op ∧ op.data = .fields z := ⟨_, x.2.1, rfl⟩
section
variable {w : World} {A : Around} {s s' : Shared} {a d P Q : Addr} {vs : List Value} {k : Int} {R : Result → Shared → Prop} {mg mb : Str → Option Value} {mean : ExcName → Option Value} {h₀ : Heap} {E : Value → Shared → Prop} {ps : List (Str × Str)}
theorem Acc.notP {h : Heap} {c : Addr} {z : Array Value} (x : Acc w h a d vs k) (y : IsTab h c P z) : a ≠ P ∧ d ≠ P := by
  obtain ⟨op, hop, hpd⟩ := code_tab y
  obtain ⟨⟨n, e1⟩, ⟨tk, tn, n', e2⟩, e3⟩ := x
  exact ⟨fun z => (by rw [z, hop] at e1; cases e1; cases hpd), fun z => (by rw [z, hop] at e2; cases e2; cases hpd)⟩
theorem Acc.stp (x : Acc w s.heap a d vs k) (W : Wd w mean mg mb h₀ P Q s) (S : Stp P Q s s') : Acc w s'.heap a d vs k := by
  obtain ⟨_, cP⟩ := W.cP
  obtain ⟨_, cQ⟩ := W.cQ
  have n1 := x.notP cP
  have n2 := x.notP cQ
  obtain ⟨⟨n, e1⟩, ⟨tk, tn, n', e2⟩, e3⟩ := x
  exact ⟨⟨n, S.keep _ _ n1.1 n2.1 e1⟩, ⟨tk, tn, n', S.keep _ _ n1.2 n2.2 e2⟩, e3⟩
theorem tup_stp {T : Addr} {vs : Array Value} (x : s.heap.IsTuple T vs) (W : Wd w mean mg mb h₀ P Q s) (S : Stp P Q s s') : s'.heap.IsTuple T vs := by
  obtain ⟨_, cP⟩ := W.cP
  obtain ⟨_, cQ⟩ := W.cQ
  obtain ⟨o, e1, e2, n, e3⟩ := x
  obtain ⟨op, hop, hpd⟩ := code_tab cP
  obtain ⟨oq, hoq, hqd⟩ := code_tab cQ
  exact ⟨o, S.keep _ _ (fun z => by rw [z, hop] at e1; cases e1; rw [hpd] at e3; cases e3) (fun z => by rw [z, hoq] at e1; cases e1; rw [hqd] at e3; cases e3) e1, e2, n, e3⟩
theorem Prs.stp (x : Prs s.heap vs ps) (W : Wd w mean mg mb h₀ P Q s) (S : Stp P Q s s') : Prs s'.heap vs ps :=
  ⟨x.len, fun j p e => by obtain ⟨v, e1, T9, tx, ty, e2, e3⟩ := x.at_ j p e; exact ⟨v, e1, T9, tx, ty, e2, tup_stp e3 W S⟩⟩
theorem Stp.refl : Stp P Q s s := ⟨fun _ _ _ _ e => e, rfl, rfl⟩
theorem Stp.trans {s'' : Shared} (x : Stp P Q s s') (y : Stp P Q s' s'') : Stp P Q s s'' := ⟨fun b o h1 h2 e => y.keep b o h1 h2 (x.keep b o h1 h2 e), y.os.trans x.os, y.drawn.trans x.drawn⟩
theorem Wd.X (W : Wd w mean mg mb h₀ P Q s) : (KF w).In s.heap := W.g.X.keeps W.g.keep
theorem Wd.T (W : Wd w mean mg mb h₀ P Q s) : TopV mean mg mb s.heap := W.g.T.keeps W.g.keep
theorem Wd.to (W : Wd w mean mg mb h₀ P Q s) (hk : ∀ b o, h₀.get? b = some o ∨ b = P ∨ b = Q → s.heap.get? b = some o → s'.heap.get? b = some o) (hg : AllBare s.gens → AllBare s'.gens) : Wd w mean mg mb h₀ P Q s' := by
  obtain ⟨⟨X, T, kp⟩, nP, nQ, ne, ⟨z1, c1⟩, ⟨z2, c2⟩, b⟩ := W
  have k0 : ∀ b o, h₀.get? b = some o → s'.heap.get? b = some o := fun b o e => hk b o (.inl e) (kp b o e)
  refine ⟨⟨X, T, k0⟩, nP, nQ, ne, ⟨z1, code_at c1 (fun o e => ?_) fun o e => hk _ _ (.inr (.inl rfl)) e⟩, ⟨z2, code_at c2 (fun o e => ?_) fun o e => hk _ _ (.inr (.inr rfl)) e⟩, hg b⟩
  · obtain ⟨q, hq⟩ : ∃ q, (KF w).lookup 60 = some q := ⟨_, rfl⟩
    have e0 := X 60 q hq
    have e1 := (kp _ _ e0).symm.trans e
    cases e1
    exact k0 _ _ e0
  · obtain ⟨q, hq⟩ : ∃ q, (KF w).lookup 67 = some q := ⟨_, rfl⟩
    have e0 := X 67 q hq
    have e1 := (kp _ _ e0).symm.trans e
    cases e1
    exact k0 _ _ e0
end
end Mine
end

section
open PySem PySem.W PyProof.Rows PySem.Calls Builtin Builtin.ObjectAttr
set_option maxRecDepth 100000
set_option maxHeartbeats 4000000
namespace Mine
section
variable {w : World} {A : Around} {s s' : Shared} {a d P Q : Addr} {vs : List Value} {k : Int} {R : Result → Shared → Prop} {mg mb : Str → Option Value} {mean : ExcName → Option Value} {h₀ : Heap} {E : Value → Shared → Prop} {ps : List (Str × Str)}
structure Hold (w : World) (h : Heap) (a d : Addr) (vs : List Value) (k : Int) (ps : List (Str × Str)) : Prop where
  acc : Acc w h a d vs k
  prs : Prs h vs ps
  small : ∀ p ∈ ps, p.1.length ≤ 1000 ∧ p.2.length ≤ 1000
  size : 0 ≤ k ∧ k ≤ 1000
theorem Hold.stp (x : Hold w s.heap a d vs k ps) (W : Wd w mean mg mb h₀ P Q s) (S : Stp P Q s s') : Hold w s'.heap a d vs k ps := ⟨x.acc.stp W S, x.prs.stp W S, x.small, x.size⟩
theorem len_wd (W : Wd w mean mg mb h₀ P Q s) (hroom : A.depth + 1 < recursionLimit) (hh : A.handled = none) (x : Hold w s.heap a d vs k ps)
    (h : ∀ s' t, Wd w mean mg mb h₀ P Q s' → Stp P Q s s' → R (.ok (.ret (.int (k + lens ps) t))) s') :
    codeAny (model PG w) A (.call (.ref 61) ⟨[.ref a], []⟩) R s := by
  obtain ⟨z, c⟩ := W.cP
  obtain ⟨z2, c2⟩ := W.cQ
  refine len_code W.g hroom hh x.acc x.prs x.small x.size W.nP c fun s' t kp c' b o dr => h s' t ?_ ⟨fun b o h1 _ e => kp b o h1 e, o, dr⟩
  obtain ⟨q, hq⟩ : ∃ q, (KF w).lookup 67 = some q := ⟨_, rfl⟩
  have k0 : ∀ b o, h₀.get? b = some o → s'.heap.get? b = some o := fun b o e => kp b o (fun z => by rw [z, W.nP] at e; cases e) (W.g.keep b o e)
  refine ⟨⟨W.g.X, W.g.T, k0⟩, W.nP, W.nQ, W.ne, c', ⟨z2, code_at c2 (fun o e => ?_) fun o e => kp _ _ (Ne.symm W.ne) e⟩, b W.bare⟩
  have e0 := W.g.X 67 q hq
  have e1 := (W.g.keep _ _ e0).symm.trans e
  cases e1
  exact k0 _ _ e0
theorem str_wd (W : Wd w mean mg mb h₀ P Q s) (hroom : A.depth + 1 < recursionLimit) (hh : A.handled = none) (x : Hold w s.heap a d vs k ps)
    (h : ∀ s' t, Wd w mean mg mb h₀ P Q s' → Stp P Q s s' → R (.ok (.ret (.str (cat ps) t))) s') :
    codeAny (model PG w) A (.call (.ref 68) ⟨[.ref a], []⟩) R s := by
  obtain ⟨z, c⟩ := W.cP
  obtain ⟨z2, c2⟩ := W.cQ
  refine str_code W.g hroom hh x.acc x.prs x.small (x.prs.len ▸ x.acc.small) W.nQ c2 fun s' t kp c' b o dr => h s' t ?_ ⟨fun b o _ h1 e => kp b o h1 e, o, dr⟩
  obtain ⟨q, hq⟩ : ∃ q, (KF w).lookup 60 = some q := ⟨_, rfl⟩
  have k0 : ∀ b o, h₀.get? b = some o → s'.heap.get? b = some o := fun b o e => kp b o (fun z => by rw [z, W.nQ] at e; cases e) (W.g.keep b o e)
  refine ⟨⟨W.g.X, W.g.T, k0⟩, W.nP, W.nQ, W.ne, ⟨z, code_at c (fun o e => ?_) fun o e => kp _ _ W.ne e⟩, c', b W.bare⟩
  have e0 := W.g.X 60 q hq
  have e1 := (W.g.keep _ _ e0).symm.trans e
  cases e1
  exact k0 _ _ e0
end
end Mine
end

section
open PySem PySem.W PyProof.Rows PySem.Calls Builtin Builtin.ObjectAttr
set_option maxRecDepth 100000
set_option maxHeartbeats 4000000
namespace Mine
section
variable {w : World} {A : Around} {s s' : Shared} {a d P Q : Addr} {vs : List Value} {k : Int} {R : Result → Shared → Prop} {mg mb : Str → Option Value} {mean : ExcName → Option Value} {h₀ : Heap} {E : Value → Shared → Prop} {ps : List (Str × Str)}
theorem acc_spec {name : Str} {f : Addr} {args : List Value} {QQ : Option Value → Shared → Prop} (X : (KF w).In s.heap) (x : Acc w s.heap a d vs k) (hf : findIn (KF w) (.ref 94) name = some (some (.ref f))) (ht : typeIn (KF w) (.ref f) = some (.type "function"))
    (h : wpAny (model PG w) A (call (.ref f) (.ref a :: args)) (fun v => QQ (some v)) E s) : wpAny (model PG w) A (callSpecial? (.ref a) name args) QQ E s := by
  obtain ⟨n, tk, tn, n', I⟩ := x.inst
  unfold callSpecial? specialOf
  refine wpAny_bind (wpAny_bind (I.type.here ((looks_findIn X hf).here (wpAny_holding ?_))))
  refine wpAny_bind (m := bindSpecial (.ref f) (.ref a)) ?_
  unfold bindSpecial
  refine wpAny_bind ((looks_typeIn X ht).here ?_)
  rw [if_pos (by decide)]
  refine wpAny_pure ?_
  exact wpAny_bind (wpAny_mono h (fun v s' z => wpAny_pure z) fun _ _ z => z)
theorem acc_nospec {name : Str} {args : List Value} {QQ : Option Value → Shared → Prop} (X : (KF w).In s.heap) (x : Acc w s.heap a d vs k) (hf : findIn (KF w) (.ref 94) name = some none)
    (h : QQ none s) : wpAny (model PG w) A (callSpecial? (.ref a) name args) QQ E s := by
  obtain ⟨n, tk, tn, n', I⟩ := x.inst
  unfold callSpecial? specialOf
  exact wpAny_bind (wpAny_bind (I.type.here ((looks_findIn X hf).here (wpAny_pure h))))
theorem acc_lenB {QQ : Value → Shared → Prop} (W : Wd w mean mg mb h₀ P Q s) (hroom : A.depth + 1 < recursionLimit) (hh : A.handled = none) (x : Hold w s.heap a d vs k ps) (hsum : lens ps ≤ 1000000)
    (h : ∀ s' t, Wd w mean mg mb h₀ P Q s' → Stp P Q s s' → QQ (.int (k + lens ps) t) s') : wpAny (model PG w) A (Builtin.«len» ⟨[.ref a], []⟩) (fun fin s' => ∃ v, fin = .done (.ret v) ∧ QQ v s') E s := by
  have hk := x.size
  unfold Builtin.«len»
  refine wpAny_bind (m := oneArg "len" _) (wpAny_pure ?_)
  refine wpAny_bind (m := callSpecial? (.ref a) (Str.ofString "__len__")) (acc_spec (f := 61) W.X x.acc (by kernel_rfl) (by kernel_rfl) (wpAny_call (len_wd W hroom hh x fun s' t W' S' => ?_)))
  dsimp only
  refine wpAny_bind (wpAny_holding (wpAny_pure ?_))
  refine wpAny_bind (wpAny_letGo ?_)
  rw [if_neg (by omega)]
  show wpAny _ _ (if (k + lens ps : Int) ≥ 2 ^ 63 then _ else _) _ _ _
  rw [if_neg (by omega)]
  refine wpAny_bind (wpAny_mkInt (wpAny_pure ⟨_, rfl, h _ _ ?_ ?_⟩))
  · exact W'.to (fun _ _ _ e => e) fun z => z
  · exact ⟨S'.keep, S'.os, S'.drawn⟩
theorem acc_len {QQ : Value → Shared → Prop} (W : Wd w mean mg mb h₀ P Q s) (hroom : A.depth + 2 < recursionLimit) (hh : A.handled = none) (x : Hold w s.heap a d vs k ps) (hsum : lens ps ≤ 1000000)
    (h : ∀ s' t, Wd w mean mg mb h₀ P Q s' → Stp P Q s s' → QQ (.int (k + lens ps) t) s') : wpAny (model PG w) A (call (.builtin "len") [.ref a]) QQ E s := by
  refine Calls.call_function_entry kind_len plain_len entry_len (args_len1 _) ?_
  exact acc_lenB W (by show A.depth + 1 < _; omega) hh x hsum h
theorem acc_truthy {QQ : Bool → Shared → Prop} (W : Wd w mean mg mb h₀ P Q s) (hroom : A.depth + 2 < recursionLimit) (hh : A.handled = none) (x : Hold w s.heap a d vs k ps) (hsum : lens ps ≤ 1000000)
    (h : ∀ s', Wd w mean mg mb h₀ P Q s' → Stp P Q s s' → QQ (k + lens ps != 0) s') : wpAny (model PG w) A (truthy (.ref a)) QQ E s := by
  have key : wpAny (model PG w) A (runValue (.builtin "len" ⟨[.ref a], []⟩)) (fun r s' => (∃ t, r = .int (k + lens ps) t) ∧ QQ (k + lens ps != 0) s') E s := by
    refine wpAny_runValue (codeAny_builtin entry_len ?_)
    rw [Around.under_plainId plain_len _]
    exact wpAny_mono (acc_lenB (QQ := fun r s' => (∃ t, r = .int (k + lens ps) t) ∧ QQ (k + lens ps != 0) s') W (by show A.depth + 1 < _; omega) hh x hsum fun s' t W' S' => ⟨⟨t, rfl⟩, h s' W' S'⟩)
      (fun fin s' h' => by obtain ⟨r, rfl, hq⟩ := h'; exact hq) fun _ _ e => e
  obtain ⟨n, tk, tn, n', I⟩ := x.acc.inst
  have sp : Looks (model PG w) s.heap (specialOf (.ref a) (Str.ofString "__len__")) (some (.ref 61)) := by
    unfold specialOf
    exact I.type.andThen (looks_findIn W.X (by kernel_rfl))
  unfold truthy
  refine wpAny_bind (acc_nospec W.X x.acc (by kernel_rfl) ?_)
  refine wpAny_bind (sp.here ?_)
  refine wpAny_bind (wpAny_mono key (fun r s' h' => by obtain ⟨⟨t, rfl⟩, hq⟩ := h'; exact wpAny_pure hq) fun _ _ e => e)
end
end Mine
end

section
open PySem PySem.W PyProof.Rows PySem.Calls Builtin Builtin.ObjectAttr
set_option maxRecDepth 100000
set_option maxHeartbeats 4000000
namespace Mine
def TabOk (w : World) (c P : Addr) (o : Obj) : Prop := (∃ z, o.data = .fields z) ∧ ∀ h, (KF w).In h → h.get? P = some o → ∃ z, IsTab h c P z
theorem tabOk_of {w : World} {h : Heap} {c P : Addr} {z : Array Value} {q : Obj} (hq : (KF w).lookup c = some q) (X : (KF w).In h) (x : IsTab h c P z) : ∃ o, h.get? P = some o ∧ TabOk w c P o := by
  obtain ⟨⟨o, v9, file, tf, flags, tg, inF, text, tt, e1, r1⟩, hP1, ht1⟩ := x
  refine ⟨_, hP1, ⟨z, rfl⟩, fun h' X' e => ⟨z, ⟨o, v9, file, tf, flags, tg, inF, text, tt, ?_, r1⟩, e, ht1⟩⟩
  have := (X c q hq).symm.trans e1
  cases this
  exact X' c q hq
section
variable {w : World} {A : Around} {s s' : Shared} {a d P Q L : Addr} {vs : List Value} {k : Int} {R : Result → Shared → Prop} {mg mb m : Str → Option Value} {mean : ExcName → Option Value} {G : Heap} {E : Value → Shared → Prop} {ps : List (Str × Str)} {oP oQ : Obj} {news pre post : List (Addr × Obj)}
theorem Hold.keeps {h h' : Heap} (x : Hold w h a d vs k ps) (hk : ∀ b o, h.get? b = some o → h'.get? b = some o) : Hold w h' a d vs k ps :=
  ⟨x.acc.keeps hk, ⟨x.prs.len, fun j p e => by obtain ⟨v, e1, T9, tx, ty, e2, o, e3, e4⟩ := x.prs.at_ j p e; exact ⟨v, e1, T9, tx, ty, e2, o, hk _ _ e3, e4⟩⟩, x.small, x.size⟩
theorem wd_of (F : Fr G L s.heap m) (X : (KF w).In G) (T : TopV mean mg mb G) (N : News G L s.heap news) (hP : (P, oP) ∈ news) (hQ : (Q, oQ) ∈ news) (tP : TabOk w 60 P oP) (tQ : TabOk w 67 Q oQ) (ne : P ≠ Q) (b : AllBare s.gens) : Wd w mean mg mb G P Q s :=
  ⟨⟨X, T, F.keep⟩, (N _ hP).2.2, (N _ hQ).2.2, ne, tP.2 _ (X.keeps F.keep) (N _ hP).1, tQ.2 _ (X.keeps F.keep) (N _ hQ).1, b⟩
structure Aft (w : World) (G : Heap) (L : Addr) (m : Str → Option Value) (P Q : Addr) (rest : List (Addr × Obj)) (s s' : Shared) : Prop where
  F : Fr G L s'.heap m
  N : ∃ oP oQ, TabOk w 60 P oP ∧ TabOk w 67 Q oQ ∧ News G L s'.heap ((P, oP) :: (Q, oQ) :: rest)
  bare : AllBare s'.gens
  os : s'.os = s.os
  drawn : s'.drawn = s.drawn
theorem aft_of (F : Fr G L s.heap m) (N : News G L s.heap ((P, oP) :: (Q, oQ) :: news)) (hn : ∀ p ∈ news, ∀ z, p.2.data ≠ .fields z) (tP : TabOk w 60 P oP) (tQ : TabOk w 67 Q oQ)
    (W : Wd w mean mg mb G P Q s') (S : Stp P Q s s') : Aft w G L m P Q news s s' := by
  obtain ⟨z1, c1⟩ := W.cP
  obtain ⟨z2, c2⟩ := W.cQ
  obtain ⟨q1, hq1⟩ : ∃ q, (KF w).lookup 60 = some q := ⟨_, rfl⟩
  obtain ⟨q2, hq2⟩ : ∃ q, (KF w).lookup 67 = some q := ⟨_, rfl⟩
  obtain ⟨o1, e1, t1⟩ := tabOk_of hq1 W.X c1
  obtain ⟨o2, e2, t2⟩ := tabOk_of hq2 W.X c2
  have NP := N _ (.head _)
  have NQ := N _ (.tail _ (.head _))
  refine ⟨⟨F.ns.at' fun o e => S.keep _ _ (Ne.symm NP.2.1) (Ne.symm NQ.2.1) e, W.g.keep, F.above⟩, ⟨o1, o2, t1, t2, fun p hp => ?_⟩, W.bare, S.os, S.drawn⟩
  rcases List.mem_cons.mp hp with rfl | hp
  · exact ⟨e1, NP.2⟩
  rcases List.mem_cons.mp hp with rfl | hp
  · exact ⟨e2, NQ.2⟩
  · have Np := N p (.tail _ (.tail _ hp))
    refine ⟨S.keep _ _ (fun z => ?_) (fun z => ?_) Np.1, Np.2⟩
    · obtain ⟨y, hy⟩ := tP.1
      have := Np.1
      rw [z, NP.1] at this
      exact hn p hp y (by rw [← Option.some.inj this]; exact hy)
    · obtain ⟨y, hy⟩ := tQ.1
      have := Np.1
      rw [z, NQ.1] at this
      exact hn p hp y (by rw [← Option.some.inj this]; exact hy)
theorem acc_str {QQ : Value → Shared → Prop} (W : Wd w mean mg mb G P Q s) (hroom : A.depth + 1 < recursionLimit) (hu : A.units + 2 < cLine) (hh : A.handled = none) (x : Hold w s.heap a d vs k ps)
    (h : ∀ s' t, Wd w mean mg mb G P Q s' → Stp P Q s s' → QQ (.str (cat ps) t) s') : wpAny (model PG w) A (call (.type "str") [.ref a]) QQ E s := by
  obtain ⟨n, tk, tn, n', I⟩ := x.acc.inst
  refine kso_call (K := KF w) (f := 68) (by show A.units + 1 + 1 < cLine; omega) W.X I (by kernel_rfl) (by kernel_rfl) ?_
  exact wpAny_call (str_wd W hroom hh x fun s' t W' S' => h s' t W' S')
end
end Mine
end

section
open PySem PySem.W PyProof.Rows PySem.Calls Builtin Builtin.ObjectAttr
set_option maxRecDepth 100000
set_option maxHeartbeats 4000000
namespace Mine
def onlyB (k : Int) (ps : List (Str × Str)) : Bool := k == 0 && (lens ps == 0 || Txt.isspace (cat ps))
section
variable {w : World} {A : Around} {s s' : Shared} {a d P Q L : Addr} {vs : List Value} {k : Int} {R : Result → Shared → Prop} {mg mb m : Str → Option Value} {mean : ExcName → Option Value} {G h₀ : Heap} {E : Value → Shared → Prop} {ps : List (Str × Str)} {oP oQ : Obj} {news pre post : List (Addr × Obj)}
theorem fin_wd (W : Wd w mean mg mb h₀ P Q s) (W' : Wd w mean mg mb (hideAll s.heap [P, Q]) P Q s') (ho : s'.os = s.os) (hd : s'.drawn = s.drawn) : Wd w mean mg mb h₀ P Q s' ∧ Stp P Q s s' := by
  have kG : ∀ b o, b ≠ P → b ≠ Q → s.heap.get? b = some o → s'.heap.get? b = some o := fun b o h1 h2 e => W'.g.keep b o (hideAll_get _ e (by simp [h1, h2]))
  refine ⟨⟨⟨W.g.X, W.g.T, fun b o e => kG b o (fun z => ?_) (fun z => ?_) (W.g.keep b o e)⟩, W.nP, W.nQ, W.ne, W'.cP, W'.cQ, W'.bare⟩, kG, ho, hd⟩
  · rw [z, W.nP] at e; cases e
  · rw [z, W.nQ] at e; cases e
theorem led_wd (W : Wd w mean mg mb h₀ P Q s) : ∃ oP oQ, TabOk w 60 P oP ∧ TabOk w 67 Q oQ ∧ s.heap.get? P = some oP ∧ s.heap.get? Q = some oQ := by
  obtain ⟨z1, c1⟩ := W.cP
  obtain ⟨z2, c2⟩ := W.cQ
  obtain ⟨q1, hq1⟩ : ∃ q, (KF w).lookup 60 = some q := ⟨_, rfl⟩
  obtain ⟨q2, hq2⟩ : ∃ q, (KF w).lookup 67 = some q := ⟨_, rfl⟩
  obtain ⟨o1, e1, t1⟩ := tabOk_of hq1 W.X c1
  obtain ⟨o2, e2, t2⟩ := tabOk_of hq2 W.X c2
  exact ⟨o1, o2, t1, t2, e1, e2⟩
theorem hold_hide (W : Wd w mean mg mb h₀ P Q s) (x : Hold w s.heap a d vs k ps) : Hold w (hideAll s.heap [P, Q]) a d vs k ps := by
  have S : Stp P Q s ⟨hideAll s.heap [P, Q], s.gens, s.drawn, s.toks, s.os⟩ := ⟨fun b o h1 h2 e => hideAll_get _ e (by simp [h1, h2]), rfl, rfl⟩
  exact x.stp W S
theorem onlyws_wd (W : Wd w mean mg mb h₀ P Q s) (hroom : A.depth + 3 < recursionLimit) (hu : A.units + 8 < cLine) (hh : A.handled = none) (x : Hold w s.heap a d vs k ps) (hsum : lens ps ≤ 1000000)
    (h : ∀ s', Wd w mean mg mb h₀ P Q s' → Stp P Q s s' → R (.ok (.ret (.bool (onlyB k ps)))) s') : codeAny (model PySem.Challenge.rw_nb0052_01.row.prog w) A (.call (.ref 83) ⟨[.ref a], []⟩) R s := by
  obtain ⟨hd9, dp9, fr9, gd9, units9⟩ := A
  cases hh
  have X : (hd.heap_39 w.params).In s.heap := W.X
  have T := W.T
  obtain ⟨oP, oQ, tP, tQ, eP, eQ⟩ := led_wd W
  have gh := W.g.hide [P, Q] (by intro b hb; simp only [List.mem_cons, List.not_mem_nil, or_false] at hb; rcases hb with rfl | rfl; exact W.nP; exact W.nQ)
  have xG := hold_hide W x
  revert X; k_fill; intro X
  k_dflt (refine' enterP X T (Nat.lt_of_le_of_lt (Nat.le_add_right _ 3) hroom) ?k6 ?k7 ?k9 ?kB ?_ ?c1 ?c2 ?c3 ?c4; (case k6 => k_is); (case k7 => k_is); (case k9 => exact BindsTo.of_eq rfl); (case kB => exact locs rfl); (case c1 => decide); (case c2 => exact rfl); (case c3 => exact rfl); (case c4 => exact rfl))
  intro h₁ F
  have F1 := fr_hide [P, Q] F
  have N1 : News (hideAll s.heap [P, Q]) s.heap.objs.size h₁ [(P, oP), (Q, oQ)] := by
    intro p hp
    simp only [List.mem_cons, List.not_mem_nil, or_false] at hp
    rcases hp with rfl | rfl
    · exact ⟨F.keep _ _ eP, Nat.ne_of_lt (Heap.lt_size eP), hideAll_none _ (by simp)⟩
    · exact ⟨F.keep _ _ eQ, Nat.ne_of_lt (Heap.lt_size eQ), hideAll_none _ (by simp)⟩
  have GX := gh.X
  have GT := gh.T
  clear F
  k_steps
  refine acc_size (GX.keeps F1.keep) (xG.keeps F1.keep).acc fun tk => ?_
  k_steps
  · rename_i hk0
    subst hk0
    refine acc_truthy (wd_of F1 GX GT N1 (.head _) (.tail _ (.head _)) tP tQ W.ne W.bare) (Nat.lt_of_le_of_lt (Nat.le_refl _) hroom) rfl (xG.keeps F1.keep) hsum fun s2 W2 S2 => ?_
    obtain ⟨F2, ⟨oP2, oQ2, tP2, tQ2, N2⟩, b2, os2, dr2⟩ := aft_of F1 N1 (by simp) tP tQ W2 S2
    obtain ⟨h2, g2, d2, t2, o2⟩ := s2
    dsimp only at F2 N2 b2 os2 dr2
    clear W2 S2 F1 N1
    k_steps
    · rename_i hl0
      refine acc_str (wd_of F2 GX GT N2 (.head _) (.tail _ (.head _)) tP2 tQ2 W.ne b2) (Nat.lt_of_le_of_lt (Nat.le_add_right _ 1) hroom) (Nat.lt_of_le_of_lt (Nat.add_le_add_left (by decide : 5 ≤ 8) units9) hu) rfl (xG.keeps F2.keep) fun s3 t W3 S3 => ?_
      obtain ⟨F3, ⟨oP3, oQ3, tP3, tQ3, N3⟩, b3, os3, dr3⟩ := aft_of F2 N2 (by simp) tP2 tQ2 W3 S3
      obtain ⟨h3, g3, d3, t3, o3⟩ := s3
      dsimp only at F3 N3 b3 os3 dr3
      clear W3 S3 F2 N2
      k_steps
      obtain ⟨W4, S4⟩ := fin_wd W (wd_of (s := ⟨_, _, _, _, _⟩) F3 GX GT N3 (.head _) (.tail _ (.head _)) tP3 tQ3 W.ne b3) (os3.trans os2) (dr3.trans dr2)
      have e : Txt.isspace (cat ps) = onlyB 0 ps := by
        have : (lens ps == 0) = false := by simp at hl0 ⊢; omega
        simp [onlyB, this]
      rw [e]
      exact h _ W4 S4
    · rename_i hl0
      obtain ⟨W4, S4⟩ := fin_wd W (wd_of (s := ⟨_, _, _, _, _⟩) F2 GX GT N2 (.head _) (.tail _ (.head _)) tP2 tQ2 W.ne b2) os2 dr2
      have e : (!(0 : Int) + ↑(lens ps) != 0) = onlyB 0 ps := by
        have : (lens ps == 0) = true := by simp at hl0 ⊢; omega
        simp [onlyB, this] at hl0 ⊢
        omega
      rw [e]
      exact h _ W4 S4
  · rename_i hk0
    obtain ⟨W3, S3⟩ := fin_wd W (wd_of (s := ⟨_, _, _, _, _⟩) F1 GX GT N1 (.head _) (.tail _ (.head _)) tP tQ W.ne W.bare) rfl rfl
    have e : (k == 0) = onlyB k ps := by
      have : (k == 0) = false := by simpa using hk0
      simp [onlyB, this]
    rw [e]
    exact h _ W3 S3
end
end Mine
end

section
open PySem PySem.W PyProof.Rows PySem.Calls Builtin Builtin.ObjectAttr
set_option maxRecDepth 100000
set_option maxHeartbeats 4000000
namespace Mine
theorem prs_led {h : Heap} : ∀ {us : List Value} {ps : List (Str × Str)}, Prs h us ps → ∃ tl : List (Addr × Obj), (∀ q ∈ tl, h.get? q.1 = some q.2 ∧ q.2.cls = .type "tuple" ∧ ∃ z n, q.2.data = .seq z n) ∧
    ∀ (j : Nat) p, ps[j]? = some p → ∃ T ot tx ty n, us[j]? = some (.ref T) ∧ (T, ot) ∈ tl ∧ ot.cls = .type "tuple" ∧ ot.data = .seq #[.str p.1 tx, .str p.2 ty] n
  | us, [], _ => ⟨[], (fun _ hq => nomatch hq), fun j p e => nomatch e⟩
  | [], p :: ps, x => nomatch x.len
  | u :: us, p :: ps, x => by
    obtain ⟨tl, h1, h2⟩ := prs_led (us := us) (ps := ps) ⟨Nat.succ.inj x.len, fun j q e => x.at_ (j + 1) q e⟩
    obtain ⟨v, e1, T, tx, ty, rfl, o, ho, hc, n, hd⟩ := x.at_ 0 p rfl
    refine ⟨(T, o) :: tl, fun q hq => ?_, fun j q e => ?_⟩
    · rcases List.mem_cons.mp hq with rfl | hq
      · exact ⟨ho, hc, _, _, hd⟩
      · exact h1 q hq
    · cases j with
      | zero =>
        cases e
        exact ⟨T, o, tx, ty, n, e1, .head _, hc, hd⟩
      | succ j =>
        obtain ⟨T', ot, tx', ty', n', a1, a2, a3⟩ := h2 j q e
        exact ⟨T', ot, tx', ty', n', a1, .tail _ a2, a3⟩
theorem Prs.keeps {h h' : Heap} {us : List Value} {ps : List (Str × Str)} (x : Prs h us ps) (hk : ∀ b o, h.get? b = some o → h'.get? b = some o) : Prs h' us ps :=
  ⟨x.len, fun j p e => by obtain ⟨v, e1, T9, tx, ty, e2, o, e3, e4⟩ := x.at_ j p e; exact ⟨v, e1, T9, tx, ty, e2, o, hk _ _ e3, e4⟩⟩
section
variable {w : World} {A : Around} {s : Shared} {m : Str → Option Value} {G : Heap} {E : Value → Shared → Prop} {L l : Addr} {scope : Scope} {env : Env} {news : List (Addr × Obj)} {us : List Value} {ps : List (Str × Str)}
theorem comp_cat {pa pb p1 p2 p3 tp pi pos : Pos} {kk : Nat} {Q : Value → Shared → Prop} (hh : A.handled = none) (F : Fr G L s.heap m) (N : News G L s.heap news) (hl : G.IsList l us.toArray) (hp : Prs G us ps) (hsm : ∀ p ∈ ps, p.1.length ≤ 1000 ∧ p.2.length ≤ 1000) (hn : ps.length ≤ 1000)
    (hpl : m (Str.ofString "plain") = some (.ref l)) (hkf : env.scope.kind = .function) (hkp : env.kindOf (Str.ofString "plain") = some .local) (hloc : env.locals = L)
    (hclos : closureFor scope env = pure []) (hcell : ∀ y ∈ scope.names, y.2 ≠ .cell) (hkind : scope.kind = .function) (hnames : ∀ y ∈ scope.names, y.2 = .local → scope.names.lookup y.1 = some .local)
    (hx : scope.names.lookup (Str.ofString "blanks") = some .local) (hx2 : scope.names.lookup (Str.ofString "part") = some .local)
    (h : ∀ D (lt : List (Str × Tok)) h' tk, lt.map (·.1) = ps.map (fun p => p.1 ++ p.2) → Fr G L h' m → News G L h' ((D, listOf (strValues lt).toArray lt.length) :: news) → Q (.ref D) { s with heap := h', toks := tk }) :
    wpAny (model PG w) A (eval (.ListComp (.BinOp (nm "blanks" p1) .Add (nm "part" p2) p3) [⟨.Tuple [nm "blanks" pa, nm "part" pb] kk tp, nm "plain" pi, [], 0⟩] scope pos) env) Q E s := by
  obtain ⟨tl, ht1, ht2⟩ := prs_led hp
  let G2 := hideAll G (tl.map (·.1))
  have hlen := hp.len
  have hG2 : ∀ b o, G2.get? b = some o → G.get? b = some o := fun b o e => of_hideAll _ e
  have gn : ∀ b, G.get? b = none → G2.get? b = none := fun b e => by
    cases q : G2.get? b with
    | none => rfl
    | some o => rw [hG2 b o q] at e; cases e
  have F2 : Fr G2 L s.heap m := ⟨F.ns, fun b o e => F.keep b o (hG2 b o e), by rw [hideAll_size]; exact F.above⟩
  have GL : G.get? L = none := Heap.get?_none_of_le F.above
  have N2 : News G2 L s.heap (tl ++ news) := fun p hpm => by
    rcases List.mem_append.mp hpm with q | q
    · have z := (ht1 p q).1
      exact ⟨F.keep _ _ z, fun e => (by rw [e, GL] at z; cases z), hideAll_none _ (List.mem_map.mpr ⟨p, q, rfl⟩)⟩
    · exact ⟨(N p q).1, (N p q).2.1, gn _ (N p q).2.2⟩
  have hl2 : G2.IsList l us.toArray := by
    obtain ⟨o, e1, e2, r⟩ := hl
    refine ⟨o, hideAll_get _ e1 fun hm => ?_, e2, r⟩
    obtain ⟨q, hq, e3⟩ := List.mem_map.mp hm
    have z := ht1 q hq
    rw [e3, e1] at z
    obtain ⟨z1, z2, _⟩ := z
    cases z1
    rw [e2] at z2; exact absurd z2 (by decide)
  refine LCp.ListComp_P (h₀ := G2) (m := m) F2 hclos hcell hkind hnames hx hx2 (by decide) ?_ (fun _ => rfl)
  refine wpAny_Name (wpAny_loadName_local hkf hkp (hloc ▸ F.ns) hpl ?_) (by decide)
  refine LCp.SrcLP.base hh F2 N2 hl2 (by rw [List.size_toArray, hlen]; exact Nat.le_trans hn (by decide)) fun g => ?_
  rw [List.size_toArray, hlen]
  have key : ∀ k i (lt : List (Str × Tok)), i + k = ps.length → lt.map (·.1) = (ps.take i).map (fun p => p.1 ++ p.2) →
      LCp.CompRestP PG w A G2 L m env (.BinOp (nm "blanks" p1) .Add (nm "part" p2) p3) (Str.ofString "blanks") (Str.ofString "part") scope [] { s with heap := g } (LCg.SrcAt G2 l us.toArray) (fun i v => us.toArray[i]? = some v) (LCg.FinE G2 L m { s with heap := g } Q) k i (strValues lt) (tl ++ news) := by
    intro k
    induction k with
    | zero =>
      intro i lt hi he
      refine LCp.CompRestP.zero fun D h' tk F' N' _ => ?_
      have e : ps.take i = ps := List.take_of_length_le (Nat.le_of_eq (show i = ps.length from hi).symm)
      rw [e] at he
      have k' : ∀ b o, G.get? b = some o → h'.get? b = some o := fun b o e => by
        by_cases hb : b ∈ tl.map (·.1)
        · obtain ⟨q, hq, rfl⟩ := List.mem_map.mp hb
          have z := (ht1 q hq).1
          rw [e] at z; cases z
          exact (N' q (.tail _ (List.mem_append_left _ hq))).1
        · exact F'.keep b o (hideAll_get _ e hb)
      refine h D lt h' tk he ⟨F'.ns, k', F.above⟩ fun p hpm => ?_
      rcases List.mem_cons.mp hpm with rfl | q
      · have z := N' _ (.head _)
        refine ⟨?_, z.2.1, ?_⟩
        · have e1 : (strValues lt).length = lt.length := by simp [strValues]
          have e2 : h'.get? D = some (listOf (strValues lt).toArray (strValues lt).length) := z.1
          rw [e1] at e2
          exact e2
        · cases q : G.get? D with
          | none => rfl
          | some o =>
            have e3 := k' D o q
            rw [z.1] at e3
            cases e3
            by_cases hb : D ∈ tl.map (·.1)
            · obtain ⟨q', hq', e4⟩ := List.mem_map.mp hb
              have z' := ht1 q' hq'
              rw [e4, q] at z'
              obtain ⟨z1, z2, _⟩ := z'
              rw [← Option.some.inj z1] at z2
              have z3 : Value.type "list" = Value.type "tuple" := z2
              exact absurd z3 (by decide)
            · have := hideAll_get (tl.map (·.1)) q hb
              rw [z.2.2] at this; cases this
      · exact ⟨(N' p (.tail _ (List.mem_append_right _ q))).1, (N p q).2⟩
    | succ k ih =>
      intro i lt hi he
      refine LCp.CompRestP.succ fun v hv => ?_
      have hi' : i < ps.length := hi ▸ Nat.lt_add_of_pos_right (Nat.succ_pos k)
      obtain ⟨T, ot, tx, ty, n, a1, a2, a3, a4⟩ := ht2 i ps[i] (List.getElem?_eq_getElem hi')
      have hv' : us[i]? = some v := by simpa using hv
      rw [a1] at hv'
      cases hv'
      refine ⟨T, ot, _, _, n, rfl, List.mem_append_left _ a2, a3, a4, ?_⟩
      intro I oI C oC D m₂ h2 tk E' hC hm1 hm2 F' N' off _
      have nC := hC.ns (N' _ (.tail _ (.head _))).1
      have hs1 := hsm ps[i] (List.getElem_mem hi')
      refine wpAny_BinOp (wpAny_Name (wpAny_loadName_local (env := compEnvC scope [] C env) hkind (lookup_relabel_local hx) nC hm1 ?_) (by decide))
      refine wpAny_Name (wpAny_loadName_local (env := compEnvC scope [] C env) hkind (lookup_relabel_local hx2) nC hm2 ?_) (by decide)
      refine SB.add (fun t' k' => ?_) (le_line2 hs1.1 hs1.2)
      refine LCg.CompEnd.intro F' N' (tl ++ news) (fun p hp => hp) off (.inl hl2) ?_
      have := ih (i + 1) (lt ++ [(ps[i].1 ++ ps[i].2, t')]) (ax_turn2 hi) (by rw [List.map_append, he, List.take_add_one, List.map_append, List.getElem?_eq_getElem hi']; rfl)
      have e2 : strValues (lt ++ [(ps[i].1 ++ ps[i].2, t')]) = strValues lt ++ [.str (ps[i].1 ++ ps[i].2) t'] := by simp [strValues]
      rw [e2] at this
      exact this
  exact key ps.length 0 [] (Nat.zero_add _) (by simp)
end
end Mine
end

section
open PySem PySem.W PyProof.Rows
namespace Mine
abbrev cl (x : Str) : List Nat := x.cps.toList
theorem cl_len (x : Str) : (cl x).length = x.length := by simp [cl, Str.length]
theorem cl_app (x y : Str) : cl (x ++ y) = cl x ++ cl y := by simp [cl, Str.cps_append]
theorem cl_ext {x y : Str} (h : cl x = cl y) : x = y := by
  cases x; cases y
  exact congrArg Str.mk (Array.toList_inj.mp h)
theorem cl_mk (l : List Nat) : cl ⟨l.toArray⟩ = l := by simp [cl]
abbrev al : List Nat := [9, 10, 32, 46, 65, 90, 97, 98]
def Good (x : Str) : Prop := ∀ c ∈ cl x, c ∈ al
def upc (c : Nat) : Nat := if 97 ≤ c ∧ c ≤ 122 then c - 32 else c
def loc (c : Nat) : Nat := if 65 ≤ c ∧ c ≤ 90 then c + 32 else c
def isW (c : Nat) : Bool := c == 32 || c == 9 || c == 10
def gr (y : List Nat) : List Nat → Nat → Bool → List Nat
  | [], _, _ => []
  | _ :: l, n + 1, f => gr y l n f
  | c :: l, 0, f => if y.isPrefixOf (c :: l) then y ++ gr y l (y.length - 1) true else (if f then upc c else loc c) :: gr y l 0 false
def greatS (x y : Str) : Str := ⟨(gr (cl y) (cl x) 0 true).toArray⟩
theorem gr_skip (y : List Nat) : ∀ (l : List Nat) (n : Nat) (f : Bool), gr y l n f = gr y (l.drop n) 0 f
  | [], n, f => by simp [gr]
  | _ :: _, 0, _ => by simp
  | c :: l, n + 1, f => by rw [gr, gr_skip y l n f]; rfl
theorem gr_mark {y l : List Nat} {f : Bool} (hy : y ≠ []) (h : y.isPrefixOf l = true) : gr y l 0 f = y ++ gr y (l.drop y.length) 0 true := by
  cases l with
  | nil => cases y with
    | nil => exact absurd rfl hy
    | cons a y => cases h
  | cons c l =>
    rw [gr, if_pos h, gr_skip]
    congr 2
    cases y with
    | nil => exact absurd rfl hy
    | cons a y => rfl
theorem gr_sign {y l : List Nat} {c : Nat} {f : Bool} (h : y.isPrefixOf (c :: l) = false) : gr y (c :: l) 0 f = (if f then upc c else loc c) :: gr y l 0 false := by
  rw [gr, if_neg (by rw [h]; decide)]
theorem isPrefixOf_take : ∀ (y l : List Nat), y.isPrefixOf l = (l.take y.length == y)
  | [], l => by simp
  | a :: y, [] => by simp
  | a :: y, c :: l => by
    rw [List.isPrefixOf, isPrefixOf_take y l]
    simp only [List.length_cons, List.take_succ_cons]
    rw [Bool.eq_iff_iff]
    simp
    exact fun _ => eq_comm
open Builtin.Str in
theorem slice_ss {x : Str} {i j : Int} (h0 : 0 ≤ i) (hi : i ≤ x.length) (hj : i ≤ j) : cl (Txt.slice x (some i) (some j)) = ((cl x).drop i.toNat).take (j - i).toNat := by
  by_cases h : j ≤ x.length
  · have := beq_iff_eq.mp (slice_closes (x := x) (i := i) (j := j) ⟨h0, hj, by simpa [Str.length] using h⟩)
    rw [this, cl_mk]
  · have e : strSliceIndices (some i) (some j) 1 x.length = strSliceIndices (some i) (some (x.length : Int)) 1 x.length := by
      have a1 : ¬ j < 0 := Int.not_lt.mpr (Int.le_trans h0 hj)
      have a2 : ¬ ((x.length : Int) < 0) := Int.not_lt.mpr (Int.natCast_nonneg _)
      have e1 : max (0 : Int) (min j (x.length : Int)) = x.length := ax_clip (Int.le_of_lt (Int.not_le.mp h))
      have e2 : max (0 : Int) (min (x.length : Int) (x.length : Int)) = x.length := ax_clip (Int.le_refl _)
      simp [strSliceIndices, a1, a2, e1, e2]
    have e' : Txt.slice x (some i) (some j) = Txt.slice x (some i) (some (x.length : Int)) := by unfold Txt.slice; rw [e]
    have := beq_iff_eq.mp (slice_closes (x := x) (i := i) (j := x.length) ⟨h0, hi, by simp [Str.length]⟩)
    rw [e', this, cl_mk, List.take_of_length_le (by rw [List.length_drop, cl_len]; exact ax_sub h0 (Int.le_refl _)), List.take_of_length_le (by rw [List.length_drop, cl_len]; exact ax_sub h0 (Int.le_of_lt (Int.not_le.mp h)))]
theorem slice_is {x y : Str} {i : Int} (h0 : 0 ≤ i) (hi : i ≤ x.length) : (Txt.slice x (some i) (some (i + y.length)) == y) = (cl y).isPrefixOf ((cl x).drop i.toNat) := by
  rw [isPrefixOf_take, Bool.eq_iff_iff, beq_iff_eq, beq_iff_eq, cl_len]
  have e := slice_ss (x := x) (j := i + y.length) h0 hi (Int.le_add_of_nonneg_right (Int.natCast_nonneg _))
  have e2 : (i + (y.length : Int) - i).toNat = y.length := by rw [Int.add_comm, Int.add_sub_cancel]; rfl
  rw [e2] at e
  rw [← e]
  exact ⟨fun h => by rw [h], cl_ext⟩
theorem item_at {x : Str} {i : Int} (h0 : 0 ≤ i) (hi : i < x.length) : ∃ c l, (cl x).drop i.toNat = c :: l ∧ (cl x).drop (i + 1).toNat = l ∧ Txt.item x i = ⟨#[c]⟩ ∧ c ∈ cl x := by
  have hs0 : i.toNat < x.length := (Int.toNat_lt h0).mpr hi
  have hl : i.toNat < (cl x).length := by rw [cl_len]; exact hs0
  refine ⟨(cl x)[i.toNat], (cl x).drop (i.toNat + 1), List.drop_eq_getElem_cons hl, congrArg (fun n => (cl x).drop n) (Int.toNat_add_nat h0 1), ?_, List.getElem_mem hl⟩
  unfold Txt.item Txt.charAt
  have e1 : seqIndex? i x.length = some i.toNat := by
    unfold seqIndex?
    simp only [show ¬ i < 0 from Int.not_lt.mpr h0, if_false]
    rw [decide_eq_true h0, decide_eq_true hi]; rfl
  rw [e1]
  have hs2 : i.toNat < x.cps.size := by simpa [Str.length] using hs0
  simp [Array.getElem?_eq_getElem hs2]
theorem up_al : ∀ c ∈ al, Txt.upper ⟨#[c]⟩ = ⟨#[upc c]⟩ := by decide +kernel
theorem lo_al : ∀ c ∈ al, Txt.lower ⟨#[c]⟩ = ⟨#[loc c]⟩ := by decide +kernel
def Grt (y x : Str) (place : Int) (first : Bool) (signs : Str) : Prop := cl signs ++ gr (cl y) ((cl x).drop place.toNat) 0 first = gr (cl y) (cl x) 0 true
def GrI (x y : Str) (signs : Str) (place : Int) (first : Bool) : Prop := 0 ≤ place ∧ place ≤ (x.length : Int) ∧ (signs.length : Int) = place ∧ Grt y x place first signs
theorem gs0 {x y : Str} : GrI x y (Str.ofString "") 0 true := by
  have e : Str.ofString "" = ⟨#[]⟩ := by decide +kernel
  rw [e]
  exact ⟨Int.le_refl 0, Int.natCast_nonneg _, rfl, by simp [Grt, cl]⟩
theorem gs1 {x y signs : Str} {place : Int} {first : Bool} (I : GrI x y signs place first) (hy : 1 ≤ y.length) (h : (Txt.slice x (some place) (some (place + y.length)) == y) = true) : GrI x y (signs ++ y) (place + y.length) true := by
  obtain ⟨h0, h1, h2, h3⟩ := I
  rw [slice_is h0 h1] at h
  obtain ⟨p, rfl⟩ := Int.eq_ofNat_of_zero_le h0
  have h : (cl y).isPrefixOf ((cl x).drop p) = true := h
  have hp : (cl y).length ≤ ((cl x).drop p).length := by
    rw [isPrefixOf_take, beq_iff_eq] at h
    have := congrArg List.length h
    rw [List.length_take] at this
    exact ax_min this
  rw [List.length_drop, cl_len, cl_len] at hp
  have hd : ((cl x).drop p).drop (cl y).length = (cl x).drop (p + y.length) := by rw [List.drop_drop, cl_len]
  refine ⟨Int.natCast_nonneg (p + y.length), Int.ofNat_le.mpr (Nat.add_comm y.length p ▸ Nat.add_le_of_le_sub (Int.ofNat_le.mp h1) hp), ?_, ?_⟩
  · rw [← cl_len, cl_app, List.length_append, cl_len, cl_len, Int.ofNat.inj h2]; rfl
  · show cl (signs ++ y) ++ gr (cl y) ((cl x).drop (p + y.length)) 0 true = _
    have h3 : cl signs ++ gr (cl y) ((cl x).drop p) 0 first = gr (cl y) (cl x) 0 true := h3
    rw [gr_mark (fun z => by rw [← cl_len, z] at hy; exact absurd hy (Nat.not_succ_le_zero 0)) h, hd] at h3
    rw [cl_app, List.append_assoc, h3]
theorem gs23 {x y signs : Str} {place : Int} {first : Bool} (I : GrI x y signs place first) (g : Good x) (hl : place < x.length) (h : (Txt.slice x (some place) (some (place + y.length)) == y) = false) :
    GrI x y (signs ++ (if first then Txt.upper (Txt.item x place) else Txt.lower (Txt.item x place))) (place + 1) false := by
  obtain ⟨h0, h1, h2, h3⟩ := I
  rw [slice_is h0 h1] at h
  obtain ⟨c, l, e1, e2, e3, e4⟩ := item_at h0 hl
  have ha := g c e4
  have e5 : (if first then Txt.upper (Txt.item x place) else Txt.lower (Txt.item x place)) = ⟨#[if first then upc c else loc c]⟩ := by
    rw [e3, up_al c ha, lo_al c ha]; cases first <;> rfl
  rw [e5]
  refine ⟨Int.le_trans h0 (Int.le_add_of_nonneg_right (by decide)), Int.add_one_le_of_lt hl, ?_, ?_⟩
  · rw [← cl_len, cl_app, List.length_append, cl_len, Int.natCast_add, h2]; rfl
  · unfold Grt at h3 ⊢
    rw [e1] at h h3
    rw [gr_sign h] at h3
    rw [cl_app, e2, List.append_assoc]
    exact h3
theorem gs2 {x y signs : Str} {place : Int} {first : Bool} (I : GrI x y signs place first) (hf : first = true) (g : Good x) (hl : place < x.length) (h : (Txt.slice x (some place) (some (place + y.length)) == y) = false) :
    GrI x y (signs ++ Txt.upper (Txt.item x place)) (place + 1) false := by
  have := gs23 I g hl h
  rw [if_pos hf] at this; exact this
theorem gs3 {x y signs : Str} {place : Int} {first : Bool} (I : GrI x y signs place first) (hf : first = false) (g : Good x) (hl : place < x.length) (h : (Txt.slice x (some place) (some (place + y.length)) == y) = false) :
    GrI x y (signs ++ Txt.lower (Txt.item x place)) (place + 1) false := by
  have := gs23 I g hl h
  rw [if_neg (by rw [hf]; decide)] at this; exact this
theorem gs_end {x y signs : Str} {place : Int} {first : Bool} (I : GrI x y signs place first) (h : ¬ place < x.length) : signs = greatS x y := by
  obtain ⟨h0, h1, h2, h3⟩ := I
  have e : (cl x).drop place.toNat = [] := List.drop_of_length_le (by rw [cl_len]; exact (Int.le_toNat h0).mpr (Int.not_lt.mp h))
  refine cl_ext ?_
  unfold Grt at h3
  rw [e] at h3
  unfold greatS
  rw [cl_mk, ← h3]
  simp [gr]
end Mine
end

section
open PySem PySem.W PyProof.Rows PySem.Calls Builtin Builtin.ObjectAttr
set_option maxRecDepth 100000
set_option maxHeartbeats 8000000
namespace Mine
section
variable {w : World} {A : Around} {s : Shared} {R : Result → Shared → Prop} {mg mb : Str → Option Value} {mean : ExcName → Option Value}
theorem great_code {x y : Str} {tx ty : Tok} (X : (hd.heap_39 w.params).In s.heap) (T : TopV mean mg mb s.heap) (hroom : A.depth < recursionLimit) (hh : A.handled = none) (hx : x.length ≤ 2000) (hy : 1 ≤ y.length) (hy2 : y.length ≤ 2) (g : Good x)
    (h : ∀ h' t tk, (∀ b o, s.heap.get? b = some o → h'.get? b = some o) → R (.ok (.ret (.str (greatS x y) t))) { s with heap := h', toks := tk }) :
    codeAny (model PySem.Challenge.rw_nb0052_01.row.prog w) A (.call (.ref 113) ⟨[.str x tx, .str y ty], []⟩) R s := by
  cases A; cases hh
  revert X; k_fill; intro X
  k_with "exec While Compare cons nil" => (k_while_given ["text", "mark"] (fun text mark script signs place first => (0 ≤ place ∧ place ≤ (text.length : Int) ∧ (signs.length : Int) = place) ∧ GrI text mark signs place first) (fun text mark script signs place first => text.length - place.toNat) "signs" "place" "first")
  k_with "state" => with_unfolding_all first | exact ⟨⟨gs0.1, gs0.2.1, gs0.2.2.1⟩, gs0⟩ | (have z := gs1 (by assumption) (by assumption) (by assumption); exact ⟨⟨z.1, z.2.1, z.2.2.1⟩, z⟩) | (have z := gs2 (by assumption) (by assumption) (by assumption) (by assumption) (by assumption); exact ⟨⟨z.1, z.2.1, z.2.2.1⟩, z⟩) | (have z := gs3 (by assumption) (by assumption) (by assumption) (by assumption) (by assumption); exact ⟨⟨z.1, z.2.1, z.2.2.1⟩, z⟩)
  k_dflt (refine' enterP X T hroom ?k6 ?k7 ?k9 ?kB ?_ ?c1 ?c2 ?c3 ?c4; (case k6 => k_is); (case k7 => k_is); (case k9 => exact BindsTo.of_eq rfl); (case kB => exact locs rfl); (case c1 => decide); (case c2 => exact rfl); (case c3 => exact rfl); (case c4 => exact rfl))
  intro h₁ F
  have N : News s.heap s.heap.objs.size h₁ [] := News.nil
  k_steps
  have e := gs_end (by assumption) (by assumption)
  rw [e]
  have FF := ‹Fr s.heap s.heap.objs.size _ _›
  exact h _ _ _ FF.keep
end
end Mine
end

section
open PySem PySem.W PyProof.Rows
namespace Mine
def sgn (acc : List Nat) (c : Nat) : List Nat := if isW c then (if acc = [] ∨ acc.getLast? = some 32 then acc else acc ++ [32]) else acc ++ [c]
def sqz (l : List Nat) : List Nat := l.foldl sgn []
def Wrd (pre : List Int) (signs : Str) : Prop := signs.length ≤ pre.length ∧ cl signs = sqz (pre.map Int.toNat) ∧ Good signs
theorem occ_al : ∀ c ∈ al, (Builtin.Str.occurrences (Str.ofString " \t\n") ⟨#[c]⟩ 0 (Str.ofString " \t\n").length 1).isEmpty = !isW c := by decide +kernel
theorem slice_last (x : Str) : cl (Txt.slice x (some (-1)) none) = (cl x).drop ((cl x).length - 1) := by
  by_cases h : x.length = 0
  · have e : cl x = [] := List.eq_nil_of_length_eq_zero (by rw [cl_len]; exact h)
    have := Txt.slice_le x (some (-1)) none
    have e2 : cl (Txt.slice x (some (-1)) none) = [] := List.eq_nil_of_length_eq_zero (by rw [cl_len]; exact Nat.le_zero.mp (h ▸ this))
    rw [e2, e]; rfl
  · have := beq_iff_eq.mp (slice_closes_from_neg (x := x) (i := -1) (a := -1 + x.length) (b := x.length) (by decide) (Int.neg_le_neg (Int.ofNat_le.mpr (Nat.pos_of_ne_zero h))) rfl rfl)
    rw [this, ax_back (Nat.pos_of_ne_zero h), cl_mk, List.take_of_length_le (by rw [List.length_drop, cl_len]; exact ax_sub (Int.natCast_nonneg _) (Int.le_refl _)), cl_len]
    rfl
theorem slice_init (x : Str) : cl (Txt.slice x none (some (-1))) = (cl x).dropLast := by
  by_cases h : x.length = 0
  · have e : cl x = [] := List.eq_nil_of_length_eq_zero (by rw [cl_len]; exact h)
    have := Txt.slice_le x none (some (-1))
    have e2 : cl (Txt.slice x none (some (-1))) = [] := List.eq_nil_of_length_eq_zero (by rw [cl_len]; exact Nat.le_zero.mp (h ▸ this))
    rw [e2, e]; rfl
  · have := beq_iff_eq.mp (slice_closes_to_neg (x := x) (j := -1) (k := -1 + x.length) (by decide) (Int.neg_le_neg (Int.ofNat_le.mpr (Nat.pos_of_ne_zero h))) rfl)
    rw [this, ax_back (Nat.pos_of_ne_zero h), cl_mk, List.dropLast_eq_take]
    simp only [Int.toNat_zero, List.drop_zero]
    rw [cl_len, Int.sub_zero]
    rfl
theorem last_any (x : Str) : ([Str.ofString "", Str.ofString " "].any fun y => y == Txt.slice x (some (-1)) none) = decide (cl x = [] ∨ (cl x).getLast? = some 32) := by
  have e0 : Str.ofString "" = ⟨#[]⟩ := by decide +kernel
  have e1 : Str.ofString " " = ⟨#[32]⟩ := by decide +kernel
  rw [e0, e1, Bool.eq_iff_iff, decide_eq_true_eq]
  simp only [List.any_cons, List.any_nil, Bool.or_false, Bool.or_eq_true, beq_iff_eq]
  have k := slice_last x
  have f : ∀ l : List Nat, (⟨l.toArray⟩ : Str) = Txt.slice x (some (-1)) none ↔ l = (cl x).drop ((cl x).length - 1) := fun l => by
    rw [← k]
    exact ⟨fun h => by rw [← h, cl_mk], fun h => cl_ext (by rw [cl_mk, h])⟩
  have f0 := f []
  have f1 := f [32]
  rw [show (⟨#[]⟩ : Str) = ⟨([] : List Nat).toArray⟩ from rfl, show (⟨#[32]⟩ : Str) = ⟨([32] : List Nat).toArray⟩ from rfl, f0, f1]
  generalize cl x = l
  rcases List.eq_nil_or_concat l with rfl | ⟨l', c, rfl⟩
  · simp
  · simp
    omega
theorem ws0 : Wrd [] (Str.ofString "") := by
  have e : Str.ofString "" = ⟨#[]⟩ := by decide +kernel
  rw [e]
  exact ⟨Nat.le_refl _, rfl, fun c h => nomatch h⟩
theorem sqz_snoc (pre : List Int) (n : Nat) : sqz ((pre ++ [(n : Int)]).map Int.toNat) = sgn (sqz (pre.map Int.toNat)) n := by simp [sqz, List.foldl_append]
theorem good_app {x y : Str} (h : Good x) (g : Good y) : Good (x ++ y) := fun c hc => by
  rw [cl_app] at hc
  rcases List.mem_append.mp hc with q | q
  · exact h c q
  · exact g c q
theorem good_one {c : Nat} (h : c ∈ al) : Good ⟨#[c]⟩ := fun d hd => by
  have : d = c := by simpa [cl] using hd
  rw [this]; exact h
theorem good_sp : Good (Str.ofString " ") := by
  rw [show Str.ofString " " = ⟨#[32]⟩ from by decide +kernel]
  exact good_one (by decide)
theorem sp_cl : cl (Str.ofString " ") = [32] := by rw [show Str.ofString " " = ⟨#[32]⟩ from by decide +kernel]
theorem codes_al {x : Str} {pre post : List Int} {n : Nat} (g : Good x) (e : KStt.codes (x ++ Str.ofString " ") = pre ++ (n : Int) :: post) : n ∈ al := by
  have hm : (n : Int) ∈ KStt.codes (x ++ Str.ofString " ") := by rw [e]; simp
  have g2 := good_app g good_sp
  have : n ∈ cl (x ++ Str.ofString " ") := by
    unfold KStt.codes at hm
    obtain ⟨a, ha, e⟩ := List.mem_map.mp hm
    have : a = n := Int.ofNat.inj e
    rw [← this]; exact ha
  exact g2 n this
theorem ws1 {x signs : Str} {pre post : List Int} {n : Nat} (I : Wrd pre signs) (g : Good x) (e : KStt.codes (x ++ Str.ofString " ") = pre ++ (n : Int) :: post)
    (h : (Builtin.Str.occurrences (Str.ofString " \t\n") ⟨#[n]⟩ 0 (Str.ofString " \t\n").length 1).isEmpty = true) : Wrd (pre ++ [(n : Int)]) (signs ++ ⟨#[n]⟩) := by
  have ha := codes_al g e
  rw [occ_al n ha] at h
  have hw : isW n = false := by simpa using h
  obtain ⟨i0, i1, i2⟩ := I
  refine ⟨?_, ?_, good_app i2 (good_one ha)⟩
  · rw [← cl_len, cl_app, List.length_append, cl_len]; simp; exact i0
  · rw [sqz_snoc, cl_app, i1, sgn, hw]; rfl
theorem ws2 {x signs : Str} {pre post : List Int} {n : Nat} (I : Wrd pre signs) (g : Good x) (e : KStt.codes (x ++ Str.ofString " ") = pre ++ (n : Int) :: post)
    (h : (Builtin.Str.occurrences (Str.ofString " \t\n") ⟨#[n]⟩ 0 (Str.ofString " \t\n").length 1).isEmpty = false)
    (h2 : ([Str.ofString "", Str.ofString " "].any fun y => y == Txt.slice signs (some (-1)) none) = true) : Wrd (pre ++ [(n : Int)]) signs := by
  have ha := codes_al g e
  rw [occ_al n ha] at h
  have hw : isW n = true := by simpa using h
  obtain ⟨i0, i1, i2⟩ := I
  rw [last_any, decide_eq_true_eq] at h2
  refine ⟨?_, ?_, i2⟩
  · rw [List.length_append]; exact Nat.le_succ_of_le i0
  · rw [sqz_snoc, ← i1, sgn, if_pos hw, if_pos h2]
theorem ws3 {x signs : Str} {pre post : List Int} {n : Nat} (I : Wrd pre signs) (g : Good x) (e : KStt.codes (x ++ Str.ofString " ") = pre ++ (n : Int) :: post)
    (h : (Builtin.Str.occurrences (Str.ofString " \t\n") ⟨#[n]⟩ 0 (Str.ofString " \t\n").length 1).isEmpty = false)
    (h2 : ([Str.ofString "", Str.ofString " "].any fun y => y == Txt.slice signs (some (-1)) none) = false) : Wrd (pre ++ [(n : Int)]) (signs ++ Str.ofString " ") := by
  have ha := codes_al g e
  rw [occ_al n ha] at h
  have hw : isW n = true := by simpa using h
  obtain ⟨i0, i1, i2⟩ := I
  rw [last_any, decide_eq_false_iff_not] at h2
  refine ⟨?_, ?_, good_app i2 good_sp⟩
  · rw [← cl_len, cl_app, List.length_append, cl_len, sp_cl]; simp; exact i0
  · rw [sqz_snoc, ← i1, sgn, if_pos hw, if_neg h2, cl_app, sp_cl]
def wordsS (x : Str) : Str := greatS ⟨(sqz (cl x ++ [32])).dropLast.toArray⟩ (Str.ofString " ")
theorem ws_end {x signs : Str} (I : Wrd (KStt.codes (x ++ Str.ofString " ")) signs) : Good (Txt.slice signs none (some (-1))) ∧ greatS (Txt.slice signs none (some (-1))) (Str.ofString " ") = wordsS x := by
  obtain ⟨i0, i1, i2⟩ := I
  have e : (KStt.codes (x ++ Str.ofString " ")).map Int.toNat = cl x ++ [32] := by
    rw [← sp_cl, ← cl_app]
    unfold KStt.codes
    rw [List.map_map]
    simp [cl, Function.comp_def]
  have k := slice_init signs
  refine ⟨fun c hc => ?_, ?_⟩
  · rw [k] at hc
    exact i2 c (List.dropLast_subset _ hc)
  · unfold wordsS
    congr 1
    exact cl_ext (by rw [k, i1, e, cl_mk])
end Mine
end

section
open PySem PySem.W PyProof.Rows PySem.Calls Builtin Builtin.ObjectAttr
set_option maxRecDepth 100000
set_option maxHeartbeats 8000000
namespace Mine
section
variable {w : World} {A : Around} {s : Shared} {R : Result → Shared → Prop} {mg mb : Str → Option Value} {mean : ExcName → Option Value}
local macro_rules | `(tactic| walk_at "exec For Name BinOp cons nil") => `(tactic| (k_here; refine stop1 ?_))
theorem words_code {x : Str} {tx : Tok} (X : (hd.heap_39 w.params).In s.heap) (T : TopV mean mg mb s.heap) (hroom : A.depth + 1 < recursionLimit) (hh : A.handled = none) (hx : x.length ≤ 1000) (g : Good x)
    (h : ∀ h' t tk, (∀ b o, s.heap.get? b = some o → h'.get? b = some o) → R (.ok (.ret (.str (wordsS x) t))) { s with heap := h', toks := tk }) :
    codeAny (model PySem.Challenge.rw_nb0052_01.row.prog w) A (.call (.ref 120) ⟨[.str x tx], []⟩) R s := by
  cases A; cases hh
  revert X; k_fill; intro X
  have e1 : (Str.ofString " ").length = 1 := by decide +kernel
  have hx1 : (x ++ Str.ofString " ").length ≤ 1001 := by rw [← cl_len, cl_app, List.length_append, cl_len, cl_len]; omega
  have e2 : ∀ n : Nat, (Str.mk #[n]).length = 1 := fun _ => rfl
  k_with "pyIter str" => k_state (fun pre signs => signs.length ≤ pre.length ∧ Wrd pre signs) "signs"
  k_with "state" => with_unfolding_all first | exact ⟨ws0.1, ws0⟩ | (have z := ws1 (by assumption) g (by assumption) (by assumption); exact ⟨z.1, z⟩) | (have z := ws2 (by assumption) g (by assumption) (by assumption) (by assumption); exact ⟨z.1, z⟩) | (have z := ws3 (by assumption) g (by assumption) (by assumption) (by assumption); exact ⟨z.1, z⟩)
  k_dflt (refine' enterP X T (Nat.lt_of_succ_lt hroom) ?k6 ?k7 ?k9 ?kB ?_ ?c1 ?c2 ?c3 ?c4; (case k6 => k_is); (case k7 => k_is); (case k9 => exact BindsTo.of_eq rfl); (case kB => exact locs rfl); (case c1 => decide); (case c2 => exact rfl); (case c3 => exact rfl); (case c4 => exact rfl))
  intro h₁ F
  have N : News s.heap s.heap.objs.size h₁ [] := News.nil
  k_steps
  refine Stop.mk ?_
  rename Fr _ _ _ _ => lF'
  with_unfolding_all refine' For_invVF lF' ?k1 ?k2 ?_
  case k1 => exact rfl
  case k2 => exact rfl
  k_steps
  have z := ws_end ‹Wrd (KStt.codes (x ++ Str.ofString " ")) _›
  have FF := ‹Fr s.heap s.heap.objs.size _ _›
  have XX : (hd.heap_39 w.params).In _ := X.keeps FF.keep
  have TT : TopV mean mg mb _ := T.keeps FF.keep
  refine wpAny_call (great_code XX TT (by show _ + 1 < _; exact hroom) rfl (by omega) (by decide +kernel) (by decide +kernel) z.1 fun h' t tk kp => ?_)
  rw [z.2]
  exact h h' t tk fun b o e => kp b o (FF.keep b o e)
end
end Mine
end

section
open PySem PySem.W PyProof.Rows PySem.Calls
open AutoSeq1 (wpAny_loadPart')
set_option maxRecDepth 100000
set_option maxHeartbeats 4000000
namespace Mine
namespace MapR
theorem slot_next : Slot "map" "__next__" "map.__next__" :=
  .of (owner := "map") (n := "__next__") (by rw [typeLookup_type, builtinLookup_eq_fast]; kernel_rfl) (by decide +kernel) (by decide +kernel) (by decide +kernel)
    (by first | exact .inl (by decide +kernel) | exact .inr (by decide +kernel)) (by rw [isSubtype_type]; kernel_rfl)
theorem slot_iter : Slot "map" "__iter__" "map.__iter__" :=
  .of (owner := "map") (n := "__iter__") (by rw [typeLookup_type, builtinLookup_eq_fast]; kernel_rfl) (by decide +kernel) (by decide +kernel) (by decide +kernel)
    (by first | exact .inl (by decide +kernel) | exact .inr (by decide +kernel)) (by rw [isSubtype_type]; kernel_rfl)
theorem slot_init : Slot "map" "__init__" "object.__init__" :=
  .of (owner := "object") (n := "__init__") (by rw [typeLookup_type, builtinLookup_eq_fast]; kernel_rfl) (by decide +kernel) (by decide +kernel) (by decide +kernel)
    (by first | exact .inl (by decide +kernel) | exact .inr (by decide +kernel)) (by rw [isSubtype_type]; kernel_rfl)
theorem entry_next : entryFor table "map.__next__" = some Builtin.«map.__next__» := entryFor_of_tree (by kernel_rfl)
theorem entry_new : entryFor table "map.__new__" = some Builtin.«map.__new__» := entryFor_of_tree (by kernel_rfl)
theorem entry_iter : entryFor table "map.__iter__" = some Builtin.«dict_keyiterator.__iter__» :=
  entryFor_alias (id' := "dict_keyiterator.__iter__") (by kernel_rfl) (by first | rfl | decide +kernel | (unfold String.splitOn; simp +decide [String.splitOnAux])) (by decide +kernel) (by kernel_rfl)
theorem args_next (a : Value) : argsOk "map.__next__" ⟨[a], []⟩ := by unfold argsOk; kernel_rfl
theorem args_iter (a : Value) : argsOk "map.__iter__" ⟨[a], []⟩ := by unfold argsOk; kernel_rfl
theorem args_init (a b c : Value) : argsOk "object.__init__" ⟨[a, b, c], []⟩ := by unfold argsOk; kernel_rfl
theorem mro : mroOf (.type "map") = pure [.type "map", .type "object"] := by rw [mroOf_type]; kernel_rfl
theorem lookup_new : typeLookup (.type "map") "__new__" = pure (some (.builtin "map.__new__")) := by rw [typeLookup_type, builtinLookup_eq_fast]; kernel_rfl
theorem called : TypeCalled "map" "map.__new__" "object.__init__" :=
  ⟨by decide +kernel, by decide +kernel, ⟨_, _, mro⟩, madeBy_type mro lookup_new (by decide +kernel), by decide +kernel, by rw [isSubtype_type]; kernel_rfl, slot_init⟩
theorem typeCall (a b : Value) : checkTypeCall "map" ⟨[a, b], []⟩ = pure () := by kernel_rfl
theorem newCall (a b : Value) : checkBuiltinCall "map.__new__" ⟨[.type "map", a, b], []⟩ = pure () := by kernel_rfl
theorem no_len : typeLookup (.type "map") "__len__" = pure none := by rw [typeLookup_type, builtinLookup_eq_fast]; kernel_rfl
theorem no_hint : typeLookup (.type "map") "__length_hint__" = pure none := by rw [typeLookup_type, builtinLookup_eq_fast]; kernel_rfl
theorem sub : isSubtype (.type "map") (.type "map") = pure true := by rw [isSubtype_type]; kernel_rfl

abbrev liO (l : Addr) : Obj := { cls := .type "list_iterator", data := .fields #[.ref l, .int 0 0] }
abbrev tuO (it : Addr) : Obj := { cls := .type "tuple", data := .seq #[.ref it] }
abbrev mapO (tu : Addr) (f : Value) : Obj := { cls := .type "map", data := .fields #[.ref tu, f] }

theorem meets_new (f : String) (l : Addr) (items : Array Value) (n : Nat) (dct : Option Addr) (sl : Array (Option Value)) :
    Meets (Builtin.«map.__new__» ⟨[.type "map", .builtin f, .ref l], []⟩) (fun _ R s => s.heap.get? l = some { cls := .type "list", dict := dct, data := .seq items n, slots := sl } ∧
      R (.ok (.ret (.ref (s.heap.objs.size + 2)))) { s with heap := ((s.heap.push (liO l)).push (tuO s.heap.objs.size)).push (mapO (s.heap.objs.size + 1) (.builtin f)) }) :=
  .of_wp fun prog w A R s ⟨hl, hr⟩ => by
    obtain ⟨hp, g, d, tk, os⟩ := s
    have self_sub := sub
    have list_at : Heap.IsList hp l items := ⟨_, hl, rfl, n, rfl⟩
    wp_walk using wpAny_loadPart' hl, wpAny_pyIter_list (s := ⟨hp, g, d, tk, os⟩) list_at
    exact ⟨_, rfl, by simp only [Heap.size_push]; exact hr⟩

section
variable {prog : Program} {w : World} {A : Around} {E : Value → Shared → Prop} {s : Shared}

theorem call_map {f : String} {l : Addr} {items : Array Value} {Q : Value → Shared → Prop} (hL : s.heap.IsList l items)
    (h : ∀ h', h'.get? (s.heap.objs.size + 2) = some (mapO (s.heap.objs.size + 1) (.builtin f)) → h'.get? (s.heap.objs.size + 1) = some (tuO s.heap.objs.size) → h'.get? s.heap.objs.size = some (liO l) →
      h'.objs.size = s.heap.objs.size + 3 → (∀ b o, s.heap.get? b = some o → h'.get? b = some o) → Q (.ref (s.heap.objs.size + 2)) { s with heap := h' }) :
    wpAny (model prog w) A (call (.type "map") [.builtin f, .ref l]) Q E s := by
  obtain ⟨⟨c, dct, dt, sl⟩, hl, hc, n, hd⟩ := hL
  change c = _ at hc
  change dt = _ at hd
  cases hc
  cases hd
  generalize hH : ((s.heap.push (liO l)).push (tuO s.heap.objs.size)).push (mapO (s.heap.objs.size + 1) (.builtin f)) = H
  have o2 : H.get? (s.heap.objs.size + 2) = some (mapO (s.heap.objs.size + 1) (.builtin f)) := by rw [← hH]; heap_get
  refine callType_new called (by decide) (typeCall _ _) (newCall _ _) (fun _ => args_init _ _ _) entry_new (meets_new f l items n dct sl) ⟨hl, ⟨⟨_, hH ▸ o2, rfl⟩, ?_⟩⟩
  rw [hH]
  exact h H o2 (by rw [← hH]; heap_get) (by rw [← hH]; heap_get) (by rw [← hH]; simp only [Heap.size_push]) fun b o x => hH ▸ Heap.get?_push_of_some _ (Heap.get?_push_of_some _ (Heap.get?_push_of_some _ x))
end
end MapR
end Mine
end

section
open PySem PySem.W PyProof.Rows PySem.Calls
set_option maxRecDepth 100000
set_option maxHeartbeats 4000000
namespace Mine
namespace MapR
section
variable {prog : Program} {w : World} {A : Around} {E : Value → Shared → Prop} {s : Shared}
theorem next_item {e tu it l : Addr} {i : Nat} {items : Array Value} {x : Str} {t : Tok} {Q : Value → Shared → Prop}
    (he : s.heap.get? e = some (mapO tu (.builtin "str.capitalize"))) (htu : s.heap.get? tu = some (tuO it)) (hit : s.heap.IsListIter it l i) (hl : s.heap.IsList l items) (hx : items[i]? = some (.str x t))
    (hne : e ≠ it) (hfit : x.length ≤ 5592405)
    (hQ : ∀ h' t' k, h'.IsListIter it l (i + 1) → Heap.SameBut it s.heap h' → Q (.str (Txt.capitalize x) t') { s with heap := h', toks := k }) :
    wpAny (model prog w) A (Builtin.«map.__next__» ⟨[.ref e], []⟩) (fun fin s' => ∃ v, fin = .done (.ret v) ∧ Q v s') E s := by
  obtain ⟨hp, g, d, tk, os⟩ := s
  show wpAny _ _ (field (.ref e) 0 >>= _) _ _ _
  refine wpAny_bind (wpAny_field he rfl (x := .ref tu) rfl ?_)
  refine wpAny_bind (wpAny_seqItems htu rfl ?_)
  dsimp only
  refine wpAny_bind ?_
  rw [← Array.forIn_toList, show (#[Value.ref it] : Array Value).toList = [Value.ref it] from rfl, List.forIn_cons]
  refine wpAny_bind (wpAny_bind (wpAny_holding (wpAny_nextOf_list_item hit hl hx fun h' hit' hs' => ?_)))
  refine wpAny_pure ?_
  dsimp only
  rw [List.forIn_nil]
  refine wpAny_pure (wpAny_bind ?_)
  refine wpAny_field ((hs'.2 e hne).trans he) rfl (x := .builtin "str.capitalize") rfl ?_
  refine wpAny_bind (wpAny_holding ?_)
  show wpAny _ _ (call (.builtin "str.capitalize") [.str x t]) _ _ _
  refine SC.capitalize (fit_capitalized hfit) fun t' k => ?_
  refine wpAny_bind (wpAny_letGo (wpAny_pure ⟨_, rfl, hQ h' t' k hit' hs'⟩))

theorem next_end {e tu it l : Addr} {i : Nat} {items : Array Value} {Q : Option Value → Shared → Prop} (hh : A.handled = none)
    (he : s.heap.get? e = some (mapO tu (.builtin "str.capitalize"))) (htu : s.heap.get? tu = some (tuO it)) (hit : s.heap.IsListIter it l i) (hl : s.heap.IsList l items) (hx : items[i]? = none)
    (hQ : ∀ h', Heap.ExtBut it s.heap h' → Q none { s with heap := h' }) : wpAny (model prog w) A (pyNext (.ref e)) Q E s := by
  have hT : s.TypeIs (.ref e) "map" := ⟨_, he, rfl⟩
  unfold pyNext
  refine wpAny_bind (wpAny_attempt (wpAny_callSpecial?_slot (name := Str.ofString "__next__") hT slot_next
    (wpAny_call_entry slot_next hT entry_next ?_ (args_next _))))
  show wpAny _ _ (field (.ref e) 0 >>= _) _ _ _
  refine wpAny_bind (wpAny_field he rfl (x := .ref tu) rfl ?_)
  refine wpAny_bind (wpAny_seqItems htu rfl ?_)
  dsimp only
  refine wpAny_bind ?_
  rw [← Array.forIn_toList, show (#[Value.ref it] : Array Value).toList = [Value.ref it] from rfl, List.forIn_cons]
  refine wpAny_bind (wpAny_bind (wpAny_holding (wpAny_nextOf_list_end hh hit hl hx fun h' x he' hx' => ?_)))
  obtain ⟨o, ho, hc⟩ := hx'
  refine wpAny_bind (wpAny_isInstance (T := "StopIteration") (b := true) ⟨o, ho, hc⟩ isSubtype_stop ?_)
  exact wpAny_pure (hQ _ he')

theorem next_walk {e tu it l : Addr} {i : Nat} {items : Array Value} {x : Str} {t : Tok} {Q : Option Value → Shared → Prop}
    (he : s.heap.get? e = some (mapO tu (.builtin "str.capitalize"))) (htu : s.heap.get? tu = some (tuO it)) (hit : s.heap.IsListIter it l i) (hl : s.heap.IsList l items) (hx : items[i]? = some (.str x t))
    (hne : e ≠ it) (hfit : x.length ≤ 5592405)
    (hQ : ∀ h' t' k, h'.IsListIter it l (i + 1) → Heap.SameBut it s.heap h' → Q (some (.str (Txt.capitalize x) t')) { s with heap := h', toks := k }) :
    wpAny (model prog w) A (pyNext (.ref e)) Q E s := by
  have hT : s.TypeIs (.ref e) "map" := ⟨_, he, rfl⟩
  unfold pyNext
  exact wpAny_bind (wpAny_attempt (wpAny_callSpecial?_slot (name := Str.ofString "__next__") hT slot_next
    (wpAny_call_entry slot_next hT entry_next (next_item he htu hit hl hx hne hfit fun h' t' k a b => wpAny_pure (hQ h' t' k a b)) (args_next _))))

theorem iter_self {e tu : Addr} {f : Value} {Q : Value → Shared → Prop} (he : s.heap.get? e = some (mapO tu f)) (h : Q (.ref e) s) : wpAny (model prog w) A (pyIter (.ref e)) Q E s := by
  have hT : s.TypeIs (.ref e) "map" := ⟨_, he, rfl⟩
  refine wpAny_pyIter_slot hT slot_iter (wpAny_call_entry slot_iter hT entry_iter ?_ (args_iter _))
  show wpAny _ _ (ret (.ref e)) _ _ s
  exact wpAny_pure ⟨_, rfl, "map", _, hT, slot_next.lookup, h⟩

theorem walks (hh : A.handled = none) (e tu it l : Addr) (hei : e ≠ it) (hti : tu ≠ it) (hli : l ≠ it) (xs : List (Str × Tok)) (hfit : ∀ p ∈ xs, p.1.length ≤ 5592405) :
    Walks prog w A e [e, tu, it, l] [it] xs.length
      (fun i v => ∃ p t', xs[i]? = some p ∧ v = .str (Txt.capitalize p.1) t')
      (fun i h => h.get? e = some (mapO tu (.builtin "str.capitalize")) ∧ h.get? tu = some (tuO it) ∧ h.IsListIter it l i ∧ h.IsList l (strValues xs).toArray) where
  sub := fun b hb => by rw [List.mem_singleton.mp hb]; simp
  frame := fun i h h' hst hk => by
    obtain ⟨a, b, c, d⟩ := hst
    exact ⟨hk e (by simp) _ a, hk tu (by simp) _ b, c.at fun o x => hk it (by simp) o x, d.at fun o x => hk l (by simp) o x⟩
  item := fun i s Q E hi hst hQ => by
    obtain ⟨a, b, c, d⟩ := hst
    have hx : (strValues xs).toArray[i]? = some (.str xs[i].1 xs[i].2) := by simp [strValues, hi]
    refine next_walk a b c d hx hei (hfit _ (List.getElem_mem hi)) fun h' t' k hit' hs' => ?_
    refine hQ _ h' k ⟨xs[i], t', List.getElem?_eq_getElem hi, rfl⟩ ⟨(hs'.2 e hei).trans a, (hs'.2 tu hti).trans b, hit', d.extBut hs'.extBut hli⟩ fun b' o hb x => hs'.extBut b' o (fun z => hb (by simp [z])) x
  done := fun s Q E hst hQ => by
    obtain ⟨a, b, c, d⟩ := hst
    exact next_end hh a b c d (by simp [strValues]) fun h' hx => hQ h' s.toks fun b o hb y => hx b o (fun z => hb (by simp [z])) y
  self := fun i s Q E hst hQ => iter_self hst.1 hQ
end
end MapR
end Mine
end

section
open PySem PySem.W PyProof.Rows PySem.Calls
open Builtin Builtin.Str Builtin.Int
set_option maxRecDepth 100000
set_option maxHeartbeats 4000000
namespace Mine
namespace MapR
abbrev emp (c : Nat) : Obj := { cls := .type "list", dict := none, data := .seq #[] c, slots := #[] }
section
variable {prog : Program} {w : World} {A : Around} {E : Value → Shared → Prop} {s : Shared} {I S : Addr} {fp wr : List Addr} {n : Nat} {P : Nat → Value → Prop} {St : Nat → Heap → Prop}
theorem touch_emp {c : Nat} {Q : Unit → Shared → Prop} (hS : s.heap.get? S = some (emp c))
    (h : ∀ h' c', h'.get? S = some (emp c') → (∀ b o, b ≠ S → s.heap.get? b = some o → h'.get? b = some o) → Q () { s with heap := h' }) : wpAny (model prog w) A (Builtin.List.listTouch (.ref S)) Q E s := by
  have u1 := Heap.get?_update_self (Obj.mapSeq fun xs => xs.push Value.none) hS rfl
  have u2 := Heap.get?_update_self (Obj.mapSeq fun xs => xs.pop) u1 rfl
  unfold Builtin.List.listTouch
  refine wpAny_bind (m := updateSeq S fun xs => xs.push .none) (wpAny_updateSeq hS rfl ?_)
  refine (show wpAny _ _ (updateSeq S fun xs => xs.pop) _ _ _ from wpAny_updateSeq u1 rfl (h _ _ u2 fun b o hb e => ?_))
  rw [Heap.get?_update_other _ _ hb.symm, Heap.get?_update_other _ _ hb.symm]
  exact e
theorem hint_map {Q : Bool → Shared → Prop} (hT : s.TypeIs (.ref I) "map") (h : Q true s) : wpAny (model prog w) A (Builtin.List.listLengthHint (.ref I)) Q E s := by
  unfold Builtin.List.listLengthHint
  refine wpAny_bind (wpAny_specialOf hT no_len ?_)
  exact (show wpAny _ _ (specialOf (.ref I) (Str.ofString "__length_hint__") >>= _) _ _ _ from wpAny_bind (wpAny_specialOf hT no_hint (wpAny_pure h)))
theorem iadd_map {c : Nat} {R : Result → Shared → Prop} (W : Walks prog w A.in1 I fp wr n P St) (hT : ∀ i h, St i h → ∃ o, h.get? I = some o ∧ o.cls = .type "map") (h0 : St 0 s.heap) (hI : I ∈ fp) (hSf : S ∉ fp) (hn : n ≤ sizeLine) (hS : s.heap.get? S = some (emp c))
    (h : ∀ acc c' h' tk, ItemsOf P acc n → h'.get? S = some { cls := .type "list", dict := none, data := .seq acc c', slots := #[] } → (∀ b o, b ≠ S → b ∉ wr → s.heap.get? b = some o → h'.get? b = some o) → R (.ok (.ret (.ref S))) { s with heap := h', toks := tk }) :
    codeAny (model prog w) A (.builtin "list.__iadd__" ⟨[.ref S, .ref I], []⟩) R s := by
  have is : s.TypeIs (.ref I) "map" := hT 0 _ h0
  have ne : (S == I) = false := beq_false_of_ne fun z => hSf (z ▸ hI)
  refine codeAny_builtin F.entry_list_iadd ?_
  rw [Around.under_plainId F.plain_list_iadd]
  refine (show wpAny _ _ (Builtin.List.listExtendWith (.ref S) (.ref I) (.ref S)) _ _ _ from ?_)
  unfold Builtin.List.listExtendWith
  refine wpAny_bind (wpAny_typeOf is ?_)
  rw [if_neg (by show ¬ ((S == I || Value.type "map" == Value.type "list" || Value.type "map" == Value.type "tuple") = true); rw [ne]; decide)]
  refine wpAny_bind (W.self 0 s _ _ h0 (wpAny_bind (wpAny_holding (hint_map is ?_))))
  refine (show wpAny _ _ (rule "list.extend.makes-room" >>= fun _ => Builtin.List.listTouch (.ref S) >>= fun _ => again (.builtin "list.extend.loop" ⟨[.ref S, .ref I, .ref S], []⟩)) _ _ _ from ?_)
  refine wpAny_bind (wpAny_rule (wpAny_bind (touch_emp hS fun h1 c1 e1 k1 => wpAny_pure ⟨plainId_quiet F.plain_extend_loop _, ?_⟩)))
  have h01 : St 0 h1 := W.frame 0 _ _ h0 fun b hb o e => k1 b o (fun z => hSf (z ▸ hb)) e
  refine codeAny_extend_loopS W.toS hn S hSf (.ref S) n 0 { s with heap := h1 } #[] c1 rfl (Nat.zero_le n) h01 e1 (ItemsOf.nil P) fun s2 acc c2 mv e2 it => ?_
  rw [mv.eq_with]
  refine h acc c2 _ _ it e2 fun b o hb hw e => mv.heap b o (fun z => ?_) (k1 b o hb e)
  rcases List.mem_cons.mp z with z | z
  · exact hb z
  · exact hw z
theorem collect_map {Q : List Value → Shared → Prop} (W : Walks prog w A.in1 I fp wr n P St) (hT : ∀ i h, St i h → ∃ o, h.get? I = some o ∧ o.cls = .type "map") (h0 : St 0 s.heap) (hI : I ∈ fp) (old : ∀ b ∈ fp, b < s.heap.objs.size) (hn : n ≤ sizeLine)
    (h : ∀ acc h' tk, ItemsOf P acc n → (∀ b o, b ∉ wr → s.heap.get? b = some o → h'.get? b = some o) → Q acc.toList { s with heap := h', toks := tk }) : wpAny (model prog w) A (collect (.ref I)) Q E s := by
  unfold collect
  refine wpAny_bind (wpAny_runValue (codeAny_builtin F.entry_proto_collect ?_))
  rw [Around.under_plainId F.plain_proto_collect]
  refine (show wpAny _ _ (newList [] >>= fun l => again (.builtin "list.__iadd__" ⟨[l, .ref I], []⟩)) _ _ _ from wpAny_bind (wpAny_newObj_type (wpAny_pure ⟨plainId_quiet F.plain_list_iadd _, ?_⟩)))
  have up : ∀ b o, s.heap.get? b = some o → (s.heap.push (emp 0)).get? b = some o := fun b o e => Heap.get?_push_of_some _ e
  refine iadd_map (s := { s with heap := s.heap.push (emp 0) }) W hT (W.frame 0 _ _ h0 fun b _ o e => up b o e) hI (fun z => Nat.lt_irrefl _ (old _ z)) hn (Heap.get?_push_size _ rfl) fun acc c' h' tk it e k => ?_
  refine (show wpAny _ _ (load s.heap.objs.size >>= _) _ _ _ from wpAny_bind (wpAny_load e (wpAny_pure (h acc h' tk it fun b o hb eb => ?_))))
  exact k b o (Nat.ne_of_lt (Heap.lt_size eb)) hb (up b o eb)
theorem tail_join {y : Str} {ls : List (Str × Tok)} {Q : Value → Shared → Prop} (hok : JoinOk y (ls.map (·.1)) = true) (h : ∀ t k, Q (.str (Txt.join y (ls.map (·.1))) t) { s with toks := k }) :
    wpAny (model prog w) A.in1 (joinTail y (strValues ls)) (fun f s' => match f with
      | .done r => wants Q E (.ok r) s'
      | .again c => c.quiet = true ∧ codeAny (model prog w) A c (wants Q E) s') (fun e s' => wants Q E (.error e) s') s := by
  have fit : tooLong ((ls.map (·.1)).toArray.foldl (· + ·.length + y.length) 0) = false := by unfold JoinOk at hok; cases e : tooLong ((ls.map (·.1)).toArray.foldl (· + ·.length + y.length) 0) <;> simp_all
  have p := post_join (s := s) (Q := Q) ls ⟨joinFit_length fit, h⟩
  rcases ls with _ | ⟨a, _ | ⟨b, r⟩⟩
  · exact gives_joinTail y [] fit prog w A (wants Q E) s p
  · exact gives_joinTail y [a] fit prog w A (wants Q E) s p
  · exact gives_joinTail y (a :: b :: r) fit prog w A (wants Q E) s p
theorem items_caps {xs : List (Str × Tok)} {acc : Array Value} (h : ItemsOf (fun i v => ∃ (p : Str × Tok) (t' : Tok), xs[i]? = some p ∧ v = Value.str (Txt.capitalize p.1) t') acc xs.length) :
    ∃ ls : List (Str × Tok), acc.toList = strValues ls ∧ ls.map (·.1) = (xs.map (·.1)).map Txt.capitalize := by
  obtain ⟨l⟩ := acc
  obtain ⟨hn, hv⟩ := h
  replace hn : l.length = xs.length := hn
  replace hv : ∀ j v, l[j]? = some v → ∃ (p : Str × Tok) (t' : Tok), xs[j]? = some p ∧ v = Value.str (Txt.capitalize p.1) t' := fun j v e => hv j v (by simpa using e)
  induction l generalizing xs with
  | nil =>
    have : xs = [] := List.eq_nil_of_length_eq_zero hn.symm
    exact ⟨[], rfl, by rw [this]; rfl⟩
  | cons v l ih =>
    obtain ⟨p, t, e1, rfl⟩ := hv 0 _ rfl
    cases xs with
    | nil => cases e1
    | cons q xs =>
      cases e1
      obtain ⟨ls, i1, i2⟩ := ih (xs := xs) (Nat.succ.inj hn) fun j v e => hv (j + 1) v e
      refine ⟨(Txt.capitalize p.1, t) :: ls, ?_, ?_⟩
      · show _ :: l = _ :: strValues ls
        rw [← i1]
      · simp only [List.map_cons, i2]
theorem join_caps {y : Str} {ty : Tok} {e tu it l : Addr} {xs : List (Str × Tok)} {Q : Value → Shared → Prop} (hh : A.handled = none) (hei : e ≠ it) (hti : tu ≠ it) (hli : l ≠ it)
    (he : s.heap.get? e = some (mapO tu (.builtin "str.capitalize"))) (htu : s.heap.get? tu = some (tuO it)) (hit : s.heap.IsListIter it l 0) (hl : s.heap.IsList l (strValues xs).toArray)
    (hfit : ∀ p ∈ xs, p.1.length ≤ 5592405) (hok : JoinOk y ((xs.map (·.1)).map Txt.capitalize) = true) (hn : xs.length ≤ sizeLine)
    (hq : ∀ h' t' k, (∀ b o, b ≠ it → s.heap.get? b = some o → h'.get? b = some o) → Q (.str (Txt.join y ((xs.map (·.1)).map Txt.capitalize)) t') { s with heap := h', toks := k }) :
    wpAny (model prog w) A (call (.builtin "str.join") [.str y ty, .ref e]) Q E s := by
  have W := walks (prog := prog) (w := w) (A := A.in1.in1) hh e tu it l hei hti hli xs hfit
  have old : ∀ b ∈ [e, tu, it, l], b < s.heap.objs.size := List.forall_mem_cons.mpr ⟨Heap.lt_size he, List.forall_mem_cons.mpr ⟨Heap.lt_size htu, List.forall_mem_cons.mpr ⟨by obtain ⟨_, x, _⟩ := hit; exact Heap.lt_size x, List.forall_mem_cons.mpr ⟨by obtain ⟨_, x, _⟩ := hl; exact Heap.lt_size x, List.forall_mem_nil _⟩⟩⟩⟩
  refine wpAny_call (codeAny_call_builtin F.slot_str_join.plain F.entry_str_join (F.slot_str_join.check _ _ _ _ _ _ _ _ (typeIs_str _ _ _) (F.args_str_join_2 _ _) ?_))
  rw [join_tree_other]
  refine wpAny_bind (wpAny_typeOf (show s.TypeIs (.ref e) "map" from ⟨_, he, rfl⟩) ?_)
  refine (show wpAny _ A.in1 ((pyIter (.ref e)).tryCatch _ >>= fun i => collect i >>= fun vs => joinTail y vs) _ _ s from ?_)
  refine wpAny_bind (wpAny_tryCatch (W.of_in1.self 0 s _ _ ⟨he, htu, hit, hl⟩ (wpAny_bind ?_)))
  refine collect_map W (fun i h st => ⟨_, st.1, rfl⟩) ⟨he, htu, hit, hl⟩ (List.mem_cons_self ..) old hn fun acc h' tk its k => ?_
  obtain ⟨ls, e1, e2⟩ := items_caps its
  rw [e1]
  refine tail_join (by rw [e2]; exact hok) fun t k' => ?_
  rw [e2]
  exact hq h' t k' fun b o hb x => k b o (fun z => hb (List.mem_singleton.mp z)) x
end
end MapR
end Mine
end

section
open PySem PySem.W PyProof.Rows
set_option maxRecDepth 100000
set_option maxHeartbeats 8000000
namespace Mine
theorem cap_attr {w : World} {A : Around} {E : Value → Shared → Prop} {s : Shared} {h₀ : Heap} {L : Addr} {m : Str → Option Value} {expr : Bool} {Q : Value → Shared → Prop} (F : Fr h₀ L s.heap m) (X₀ : (KF w).In h₀)
    (h : Q (.builtin "str.capitalize") { s with toks := s.toks + 1 }) : wpAny (model PG w) A (getAttr (.type "str") (Str.ofString "capitalize") expr) Q E s := by
  have X := X₀.keeps F.keep
  have hstub : opaqueClassAbove (.type "str") = pure none := by unfold opaqueClassAbove; dsimp only; rw [show Manifest.isStub "str" = false from by decide +kernel]; rfl
  have L0 : Looks (model PG w) s.heap (typeOf (.type "str")) (.type "type") := Looks.of_pure (kitMeta_of (by decide +kernel))
  have LO' : Looks (model PG w) s.heap (opaqueClassAbove (.type "str")) none := Looks.of_pure hstub
  have hg : findIn (KF w) (.type "type") "__getattribute__" = some (some (.builtin "type.__getattribute__")) := type_tga
  refine cls_open X LO' L0 hg (looks_hook X (r := none) (by rfl)) (by show subIn (KF w) _ _ = _; rfl) (r := .val (.builtin "str.capitalize")) (by kernel_rfl) ?_
  exact wpAny_pure (handed_on rfl h)

def capS (x y : Str) : Str := Txt.join y ((Txt.split x y).map Txt.capitalize)
def capN (x : Str) : Str := Txt.join (Str.ofString " ") ((Txt.words x).map Txt.capitalize)

theorem sum_caps : ∀ l : List Str, ((l.map Txt.capitalize).map (·.length)).sum ≤ 3 * (l.map (·.length)).sum
  | [] => Nat.le_refl _
  | a :: l => by
    have h1 := len_capitalize a
    have h2 := sum_caps l
    simp only [List.map_cons, List.sum_cons]
    omega
theorem joinOk_caps {l : List Str} {y : Str} {k : Nat} (h : (l.map (·.length)).sum + l.length ≤ k + 1) (hk : k ≤ 1000) (hy : y.length ≤ 2) : JoinOk y (l.map Txt.capitalize) = true := by
  unfold JoinOk
  rw [StrLaws.joinTotal, Bool.not_eq_true']
  have h1 := sum_caps l
  rw [List.length_map]
  have h2 : l.length * y.length ≤ l.length * 2 := Nat.mul_le_mul_left _ hy
  exact short24 (by omega)

section
variable {prog : Program} {w : World} {A : Around} {E : Value → Shared → Prop} {s : Shared} {h₀ : Heap} {L : Addr} {m : Str → Option Value} {news : List (Addr × Obj)} {Q : Value → Shared → Prop}
theorem split_K {x y : Str} {t u : Tok} (F : Fr h₀ L s.heap m) (N : News h₀ L s.heap news) (hx : x.length ≤ 1000) (hy : 1 ≤ y.length)
    (h : ∀ D l h' k, l.map (·.1) = Txt.split x y → Fr h₀ L h' m → News h₀ L h' ((D, listOf (strValues l).toArray 0) :: news) → Q (.ref D) { s with heap := h', toks := k }) :
    wpAny (model prog w) A (call (.builtin "str.split") [.str x t, .str y u]) Q E s :=
  KSpl.split1 F N (by have : y.length ≠ 0 := by omega
                      simpa using this) (fun D l h' k e _ F' N' _ => h D l h' k e F' N') (by rw [sizeLine_eq]; omega)
theorem split_KN {x : Str} {t : Tok} (F : Fr h₀ L s.heap m) (N : News h₀ L s.heap news) (hx : x.length ≤ 1000)
    (h : ∀ D l h' k, l.map (·.1) = Txt.words x → Fr h₀ L h' m → News h₀ L h' ((D, listOf (strValues l).toArray 0) :: news) → Q (.ref D) { s with heap := h', toks := k }) :
    wpAny (model prog w) A (call (.builtin "str.split") [.str x t, .none]) Q E s :=
  splitN0None F N (fun l h' k e _ _ _ F' N' => h _ l h' k e F' N') (by rw [sizeLine_eq]; omega)
theorem map_K {D : Addr} {l : List (Str × Tok)} (F : Fr h₀ L s.heap m) (N : News h₀ L s.heap ((D, listOf (strValues l).toArray 0) :: news))
    (h : ∀ it h', Fr h₀ L h' m → News h₀ L h' ((it + 2, MapR.mapO (it + 1) (.builtin "str.capitalize")) :: (it + 1, MapR.tuO it) :: (it, MapR.liO D) :: (D, listOf (strValues l).toArray 0) :: news) → (∀ p ∈ (D, listOf (strValues l).toArray 0) :: news, p.1 < it) → Q (.ref (it + 2)) { s with heap := h' }) :
    wpAny (model prog w) A (call (.type "map") [.builtin "str.capitalize", .ref D]) Q E s := by
  have hD := (N _ (.head _)).1
  refine MapR.call_map ⟨_, hD, rfl, _, rfl⟩ fun h' e2 e1 e0 hsz hk => ?_
  have hn := news_grow (h' := h') F N hk [(s.heap.objs.size + 2, MapR.mapO (s.heap.objs.size + 1) (.builtin "str.capitalize")), (s.heap.objs.size + 1, MapR.tuO s.heap.objs.size), (s.heap.objs.size, MapR.liO D)] (by
    intro p hp
    simp only [List.mem_cons, List.not_mem_nil, or_false] at hp
    rcases hp with rfl | rfl | rfl
    · exact ⟨e2, by omega⟩
    · exact ⟨e1, by omega⟩
    · exact ⟨e0, Nat.le_refl _⟩)
  exact h _ h' (fr_grow F hk) hn fun p hp => Heap.lt_size (N p hp).1
theorem join_K {D it : Addr} {l : List (Str × Tok)} {y : Str} {ty : Tok} {k : Nat} (hh : A.handled = none) (F : Fr h₀ L s.heap m)
    (N : News h₀ L s.heap ((it + 2, MapR.mapO (it + 1) (.builtin "str.capitalize")) :: (it + 1, MapR.tuO it) :: (it, MapR.liO D) :: (D, listOf (strValues l).toArray 0) :: news)) (hlt : ∀ p ∈ (D, listOf (strValues l).toArray 0) :: news, p.1 < it)
    (hw : ((l.map (·.1)).map (·.length)).sum + (l.map (·.1)).length ≤ k + 1) (hk : k ≤ 1000) (hy : y.length ≤ 2)
    (h : ∀ t' h' tk, Fr h₀ L h' m → News h₀ L h' news → Q (.str (Txt.join y ((l.map (·.1)).map Txt.capitalize)) t') { s with heap := h', toks := tk }) :
    wpAny (model prog w) A (call (.builtin "str.join") [.str y ty, .ref (it + 2)]) Q E s := by
  have e2 := (N _ (.head _)).1
  have e1 := (N _ (.tail _ (.head _))).1
  have Ni := N _ (.tail _ (.tail _ (.head _)))
  have eD := (N _ (.tail _ (.tail _ (.tail _ (.head _))))).1
  have hlen : ∀ a ∈ l.map (·.1), a.length ≤ 1001 := by
    intro a ha
    have : ∀ (xs : List Str), a ∈ xs → a.length ≤ (xs.map (·.length)).sum := by
      intro xs
      induction xs with
      | nil => intro h; cases h
      | cons b xs ih =>
        intro h
        simp only [List.map_cons, List.sum_cons]
        rcases List.mem_cons.mp h with rfl | h
        · omega
        · have := ih h; omega
    have := this _ ha
    omega
  refine MapR.join_caps hh (Nat.ne_of_gt (Nat.lt_add_of_pos_right (Nat.succ_pos 1)) : it + 2 ≠ it) (Nat.ne_of_gt (Nat.lt_succ_self it) : it + 1 ≠ it) (Nat.ne_of_lt (hlt _ (.head _))) e2 e1 ⟨_, Ni.1, rfl, rfl⟩ ⟨_, eD, rfl, _, rfl⟩ ?_ (joinOk_caps hw hk hy) ?_ fun h' t' tk kp => ?_
  · intro p hp
    have := hlen _ (List.mem_map_of_mem (f := (·.1)) hp)
    omega
  · rw [sizeLine_eq]
    rw [List.length_map] at hw
    omega
  · have N2 : News h₀ L s.heap news := fun p hp => N p (.tail _ (.tail _ (.tail _ (.tail _ hp))))
    exact h t' h' tk (fr_but F Ni.2.1 Ni.2.2 kp) (news_but N2 (fun p hp => Nat.ne_of_lt (hlt p (.tail _ hp))) kp)
end
end Mine
end

section
open PySem PySem.W PyProof.Rows PySem.Calls Builtin Builtin.ObjectAttr
set_option maxRecDepth 100000
set_option maxHeartbeats 8000000
namespace Mine
theorem weight_of {l : List (Str × Tok)} {ts : List Str} {k : Nat} (e : l.map (·.1) = ts) (h : (ts.map (·.length)).sum + ts.length ≤ k + 1) : ((l.map (·.1)).map (·.length)).sum + (l.map (·.1)).length ≤ k + 1 := by rw [e]; exact h
theorem weight_cap {x : Str} {l : List (Str × Tok)} (h : l.map (·.1) = Txt.words x ∨ ∃ y : Str, 1 ≤ y.length ∧ l.map (·.1) = Txt.split x y) : ((l.map (·.1)).map (·.length)).sum + (l.map (·.1)).length ≤ x.length + 1 := by
  rcases h with h | ⟨y, hy, h⟩
  · exact weight_of h (StrLaws.words_weight _)
  · exact weight_of h (split_weight _ _ hy)
section
variable {w : World} {A : Around} {s : Shared} {R : Result → Shared → Prop} {mg mb : Str → Option Value} {mean : ExcName → Option Value}
local macro_rules | `(tactic| walk_at "getAttr") => `(tactic| (k_here; refine stop1 ?_))
local macro_rules | `(tactic| walk_at "call builtin:str.split") => `(tactic| (k_here; refine stop1 ?_))
local macro_rules | `(tactic| walk_at "call type:map") => `(tactic| (k_here; refine stop1 ?_))
local macro_rules | `(tactic| walk_at "call builtin:str.join") => `(tactic| (k_here; refine stop1 ?_))
theorem cap_code {x y : Str} {tx ty : Tok} (X : (hd.heap_39 w.params).In s.heap) (T : TopV mean mg mb s.heap) (hroom : A.depth < recursionLimit) (hh : A.handled = none) (hx : x.length ≤ 1000) (hy : 1 ≤ y.length) (hy2 : y.length ≤ 2)
    (h : ∀ h' t tk, (∀ b o, s.heap.get? b = some o → h'.get? b = some o) → R (.ok (.ret (.str (capS x y) t))) { s with heap := h', toks := tk }) :
    codeAny (model PySem.Challenge.rw_nb0052_01.row.prog w) A (.call (.ref 106) ⟨[.str x tx, .str y ty], []⟩) R s := by
  cases A; cases hh
  revert X; k_fill; intro X
  k_dflt (refine' enterP X T hroom ?k6 ?k7 ?k9 ?kB ?_ ?c1 ?c2 ?c3 ?c4; (case k6 => k_is); (case k7 => k_is); (case k9 => exact binds_K X rfl (by k_is) rfl rfl rfl); (case kB => exact locs rfl); (case c1 => decide); (case c2 => exact rfl); (case c3 => exact rfl); (case c4 => exact rfl))
  intro h₁ F
  have N : News s.heap s.heap.objs.size h₁ [] := News.nil
  k_steps
  refine Stop.mk ?_
  k_dflt (refine' cap_attr ?F ?X ?_; (case F => k_asm); (case X => k_asm); k_whole)
  k_steps
  refine Stop.mk (split_K (by k_asm) (by k_asm) (by omega) (by omega) ?_)
  intro D' l' h' k' e' F' N'
  k_steps
  refine Stop.mk (map_K (by k_asm) (by k_asm) ?_)
  intro it' h' F' N' lt'
  k_steps
  refine Stop.mk (join_K (by rfl) (by k_asm) (by k_asm) (by assumption) (weight_cap (.inr ⟨_, by assumption, by assumption⟩)) (by omega) (by first | omega | decide) ?_)
  intro t' h' k' F' N'
  k_steps
  · rename (List.map _ _ = Txt.split _ _) => e9
    rw [e9]
    have FF := ‹Fr s.heap s.heap.objs.size _ _›
    exact h _ _ _ FF.keep
  · exfalso; omega
theorem capN_code {x : Str} {tx : Tok} (X : (hd.heap_39 w.params).In s.heap) (T : TopV mean mg mb s.heap) (hroom : A.depth < recursionLimit) (hh : A.handled = none) (hx : x.length ≤ 1000)
    (h : ∀ h' t tk, (∀ b o, s.heap.get? b = some o → h'.get? b = some o) → R (.ok (.ret (.str (capN x) t))) { s with heap := h', toks := tk }) :
    codeAny (model PySem.Challenge.rw_nb0052_01.row.prog w) A (.call (.ref 106) ⟨[.str x tx], []⟩) R s := by
  cases A; cases hh
  revert X; k_fill; intro X
  k_dflt (refine' enterP X T hroom ?k6 ?k7 ?k9 ?kB ?_ ?c1 ?c2 ?c3 ?c4; (case k6 => k_is); (case k7 => k_is); (case k9 => exact binds_K X rfl (by k_is) rfl rfl rfl); (case kB => exact locs rfl); (case c1 => decide); (case c2 => exact rfl); (case c3 => exact rfl); (case c4 => exact rfl))
  intro h₁ F
  have N : News s.heap s.heap.objs.size h₁ [] := News.nil
  k_steps
  refine Stop.mk ?_
  k_dflt (refine' cap_attr ?F ?X ?_; (case F => k_asm); (case X => k_asm); k_whole)
  k_steps
  refine Stop.mk (split_KN (by k_asm) (by k_asm) (by omega) ?_)
  intro D' l' h' k' e' F' N'
  k_steps
  refine Stop.mk (map_K (by k_asm) (by k_asm) ?_)
  intro it' h' F' N' lt'
  k_steps
  refine Stop.mk (join_K (by rfl) (by k_asm) (by k_asm) (by assumption) (weight_cap (.inl (by assumption))) (by omega) (by first | omega | decide) ?_)
  intro t' h' k' F' N'
  k_steps
  rename (List.map _ _ = Txt.words _) => e9
  rw [e9]
  have FF := ‹Fr s.heap s.heap.objs.size _ _›
  exact h _ _ _ FF.keep
end
end Mine
end

section
open PySem PySem.W PyProof.Rows PySem.Calls Builtin Builtin.ObjectAttr
set_option maxRecDepth 100000
set_option maxHeartbeats 4000000
namespace Mine
section
variable {w : World} {A : Around} {s : Shared} {a d P Q L : Addr} {vs : List Value} {k : Int} {mg mb m : Str → Option Value} {mean : ExcName → Option Value} {G : Heap} {E : Value → Shared → Prop} {ps : List (Str × Str)} {oP oQ : Obj} {news : List (Addr × Obj)} {QQ : Value → Shared → Prop}
theorem strK (F : Fr G L s.heap m) (N : News G L s.heap ((P, oP) :: (Q, oQ) :: news)) (tP : TabOk w 60 P oP) (tQ : TabOk w 67 Q oQ) (ne : P ≠ Q) (hn : ∀ p ∈ news, ∀ z, p.2.data ≠ .fields z) (X : (hd.heap_39 w.params).In G) (T : TopV mean mg mb G) (b : AllBare s.gens)
    (hroom : A.depth + 1 < recursionLimit) (hu : A.units + 2 < cLine) (hh : A.handled = none) (x : Hold w s.heap a d vs k ps)
    (h : ∀ oP' oQ' h' g' tk t, Fr G L h' m → News G L h' ((P, oP') :: (Q, oQ') :: news) → TabOk w 60 P oP' → TabOk w 67 Q oQ' → AllBare g' → QQ (.str (cat ps) t) ⟨h', g', s.drawn, tk, s.os⟩) :
    wpAny (model PG w) A (call (.type "str") [.ref a]) QQ E s := by
  refine acc_str (wd_of F X T N (.head _) (.tail _ (.head _)) tP tQ ne b) hroom hu hh x fun s3 t W3 S3 => ?_
  obtain ⟨F3, ⟨oP3, oQ3, tP3, tQ3, N3⟩, b3, os3, dr3⟩ := aft_of F N hn tP tQ W3 S3
  obtain ⟨h3, g3, d3, t3, o3⟩ := s3
  dsimp only at os3 dr3
  subst os3 dr3
  exact h _ _ _ _ _ _ F3 N3 tP3 tQ3 b3
theorem lenK (F : Fr G L s.heap m) (N : News G L s.heap ((P, oP) :: (Q, oQ) :: news)) (tP : TabOk w 60 P oP) (tQ : TabOk w 67 Q oQ) (ne : P ≠ Q) (hn : ∀ p ∈ news, ∀ z, p.2.data ≠ .fields z) (X : (hd.heap_39 w.params).In G) (T : TopV mean mg mb G) (b : AllBare s.gens)
    (hroom : A.depth + 2 < recursionLimit) (hh : A.handled = none) (x : Hold w s.heap a d vs k ps) (hsum : lens ps ≤ 1000000)
    (h : ∀ oP' oQ' h' g' tk t, Fr G L h' m → News G L h' ((P, oP') :: (Q, oQ') :: news) → TabOk w 60 P oP' → TabOk w 67 Q oQ' → AllBare g' → QQ (.int (k + lens ps) t) ⟨h', g', s.drawn, tk, s.os⟩) :
    wpAny (model PG w) A (call (.builtin "len") [.ref a]) QQ E s := by
  refine acc_len (wd_of F X T N (.head _) (.tail _ (.head _)) tP tQ ne b) hroom hh x hsum fun s3 t W3 S3 => ?_
  obtain ⟨F3, ⟨oP3, oQ3, tP3, tQ3, N3⟩, b3, os3, dr3⟩ := aft_of F N hn tP tQ W3 S3
  obtain ⟨h3, g3, d3, t3, o3⟩ := s3
  dsimp only at os3 dr3
  subst os3 dr3
  exact h _ _ _ _ _ _ F3 N3 tP3 tQ3 b3
theorem onlyK (F : Fr G L s.heap m) (N : News G L s.heap ((P, oP) :: (Q, oQ) :: news)) (tP : TabOk w 60 P oP) (tQ : TabOk w 67 Q oQ) (ne : P ≠ Q) (hn : ∀ p ∈ news, ∀ z, p.2.data ≠ .fields z) (X : (hd.heap_39 w.params).In G) (T : TopV mean mg mb G) (b : AllBare s.gens)
    (hroom : A.depth + 3 < recursionLimit) (hu : A.units + 8 < cLine) (hh : A.handled = none) (x : Hold w s.heap a d vs k ps) (hsum : lens ps ≤ 1000000)
    (h : ∀ oP' oQ' h' g' tk, Fr G L h' m → News G L h' ((P, oP') :: (Q, oQ') :: news) → TabOk w 60 P oP' → TabOk w 67 Q oQ' → AllBare g' → QQ (.bool (onlyB k ps)) ⟨h', g', s.drawn, tk, s.os⟩) :
    wpAny (model PG w) A (call (.ref 83) [.ref a]) QQ E s := by
  refine wpAny_call (onlyws_wd (wd_of F X T N (.head _) (.tail _ (.head _)) tP tQ ne b) hroom hu hh x hsum fun s3 W3 S3 => ?_)
  obtain ⟨F3, ⟨oP3, oQ3, tP3, tQ3, N3⟩, b3, os3, dr3⟩ := aft_of F N hn tP tQ W3 S3
  obtain ⟨h3, g3, d3, t3, o3⟩ := s3
  dsimp only at os3 dr3
  subst os3 dr3
  exact h _ _ _ _ _ F3 N3 tP3 tQ3 b3
theorem fn_keep {h h' : Heap} (F : Fr G L h m) (N : News G L h news) (kp : ∀ b o, h.get? b = some o → h'.get? b = some o) : Fr G L h' m ∧ News G L h' news :=
  ⟨fr_grow F kp, fun p hp => ⟨kp _ _ (N p hp).1, (N p hp).2⟩⟩
theorem countK (F : Fr G L s.heap m) (N : News G L s.heap news) (X : (hd.heap_39 w.params).In G) (T : TopV mean mg mb G) (hroom : A.depth < recursionLimit) (x : Hold w s.heap a d vs k ps)
    (h : ∀ h' tk t, Fr G L h' m → News G L h' news → QQ (.int ps.length t) { s with heap := h', toks := tk }) : wpAny (model PG w) A (call (.ref 91) [.ref a]) QQ E s := by
  refine wpAny_call (part_count_code (X.keeps F.keep) (T.keeps F.keep) hroom x.acc fun h' t tk kp => ?_)
  rw [x.prs.len]
  obtain ⟨F', N'⟩ := fn_keep F N kp
  exact h h' tk t F' N'
theorem methK {name : Str} {f : Value} {TT : String} {pl : Sem Bool} {QM : Value × List Value → Shared → Prop} (F : Fr G L s.heap m) (X : (hd.heap_39 w.params).In G) (x : Hold w s.heap a d vs k ps) (hf : findIn (KF w) (.ref 94) name = some (some f)) (ht : typeIn (KF w) f = some (.type TT))
    (hT : (Value.type TT != .type "function" && Value.type TT != .type "method_descriptor" && Value.type TT != .type "wrapper_descriptor") = false)
    (hn : (Str.ofString "_initial_size" == name) = false) (h : QM (f, [.ref a]) s) : wpAny (model PG w) A (getMethod (.ref a) name pl) QM E s :=
  acc_meth (X.keeps F.keep) x.acc hf ht hT hn h
theorem capK {x y : Str} {tx ty : Tok} (F : Fr G L s.heap m) (N : News G L s.heap news) (X : (hd.heap_39 w.params).In G) (T : TopV mean mg mb G) (hroom : A.depth < recursionLimit) (hh : A.handled = none) (hx : x.length ≤ 1000) (hy : 1 ≤ y.length) (hy2 : y.length ≤ 2)
    (h : ∀ h' tk t, Fr G L h' m → News G L h' news → QQ (.str (capS x y) t) { s with heap := h', toks := tk }) : wpAny (model PG w) A (call (.ref 106) [.str x tx, .str y ty]) QQ E s := by
  refine wpAny_call (cap_code (X.keeps F.keep) (T.keeps F.keep) hroom hh hx hy hy2 fun h' t tk kp => ?_)
  obtain ⟨F', N'⟩ := fn_keep F N kp
  exact h h' tk t F' N'
theorem capNK {x : Str} {tx : Tok} (F : Fr G L s.heap m) (N : News G L s.heap news) (X : (hd.heap_39 w.params).In G) (T : TopV mean mg mb G) (hroom : A.depth < recursionLimit) (hh : A.handled = none) (hx : x.length ≤ 1000)
    (h : ∀ h' tk t, Fr G L h' m → News G L h' news → QQ (.str (capN x) t) { s with heap := h', toks := tk }) : wpAny (model PG w) A (call (.ref 106) [.str x tx]) QQ E s := by
  refine wpAny_call (capN_code (X.keeps F.keep) (T.keeps F.keep) hroom hh hx fun h' t tk kp => ?_)
  obtain ⟨F', N'⟩ := fn_keep F N kp
  exact h h' tk t F' N'
theorem wordsK {x : Str} {tx : Tok} (F : Fr G L s.heap m) (N : News G L s.heap news) (X : (hd.heap_39 w.params).In G) (T : TopV mean mg mb G) (hroom : A.depth + 1 < recursionLimit) (hh : A.handled = none) (hx : x.length ≤ 1000) (g : Good x)
    (h : ∀ h' tk t, Fr G L h' m → News G L h' news → QQ (.str (wordsS x) t) { s with heap := h', toks := tk }) : wpAny (model PG w) A (call (.ref 120) [.str x tx]) QQ E s := by
  refine wpAny_call (words_code (X.keeps F.keep) (T.keeps F.keep) hroom hh hx g fun h' t tk kp => ?_)
  obtain ⟨F', N'⟩ := fn_keep F N kp
  exact h h' tk t F' N'
theorem greatK {x y : Str} {tx ty : Tok} (F : Fr G L s.heap m) (N : News G L s.heap news) (X : (hd.heap_39 w.params).In G) (T : TopV mean mg mb G) (hroom : A.depth < recursionLimit) (hh : A.handled = none) (hx : x.length ≤ 1000) (hy : 1 ≤ y.length) (hy2 : y.length ≤ 2) (g : Good x)
    (h : ∀ h' tk t, Fr G L h' m → News G L h' news → QQ (.str (greatS x y) t) { s with heap := h', toks := tk }) : wpAny (model PG w) A (call (.ref 113) [.str x tx, .str y ty]) QQ E s := by
  refine wpAny_call (great_code (X.keeps F.keep) (T.keeps F.keep) hroom hh (by omega) hy hy2 g fun h' t tk kp => ?_)
  obtain ⟨F', N'⟩ := fn_keep F N kp
  exact h h' tk t F' N'
theorem strKe {z : Str} (e : cat ps = z) (F : Fr G L s.heap m) (N : News G L s.heap ((P, oP) :: (Q, oQ) :: news)) (tP : TabOk w 60 P oP) (tQ : TabOk w 67 Q oQ) (ne : P ≠ Q) (hn : ∀ p ∈ news, ∀ z, p.2.data ≠ .fields z) (X : (hd.heap_39 w.params).In G) (T : TopV mean mg mb G) (b : AllBare s.gens)
    (hroom : A.depth + 1 < recursionLimit) (hu : A.units + 2 < cLine) (hh : A.handled = none) (x : Hold w s.heap a d vs k ps)
    (h : ∀ oP' oQ' h' g' tk t, Fr G L h' m → News G L h' ((P, oP') :: (Q, oQ') :: news) → TabOk w 60 P oP' → TabOk w 67 Q oQ' → AllBare g' → QQ (.str z t) ⟨h', g', s.drawn, tk, s.os⟩) :
    wpAny (model PG w) A (call (.type "str") [.ref a]) QQ E s := by
  subst e
  exact strK F N tP tQ ne hn X T b hroom hu hh x h
theorem onlyKe {z : Bool} (e : onlyB k ps = z) (F : Fr G L s.heap m) (N : News G L s.heap ((P, oP) :: (Q, oQ) :: news)) (tP : TabOk w 60 P oP) (tQ : TabOk w 67 Q oQ) (ne : P ≠ Q) (hn : ∀ p ∈ news, ∀ z, p.2.data ≠ .fields z) (X : (hd.heap_39 w.params).In G) (T : TopV mean mg mb G) (b : AllBare s.gens)
    (hroom : A.depth + 3 < recursionLimit) (hu : A.units + 8 < cLine) (hh : A.handled = none) (x : Hold w s.heap a d vs k ps) (hsum : lens ps ≤ 1000000)
    (h : ∀ oP' oQ' h' g' tk, Fr G L h' m → News G L h' ((P, oP') :: (Q, oQ') :: news) → TabOk w 60 P oP' → TabOk w 67 Q oQ' → AllBare g' → QQ (.bool z) ⟨h', g', s.drawn, tk, s.os⟩) :
    wpAny (model PG w) A (call (.ref 83) [.ref a]) QQ E s := by
  subst e
  exact onlyK F N tP tQ ne hn X T b hroom hu hh x hsum h
theorem capKe {x y : Str} {tx ty : Tok} {z : Str} (e : capS x y = z) (F : Fr G L s.heap m) (N : News G L s.heap news) (X : (hd.heap_39 w.params).In G) (T : TopV mean mg mb G) (hroom : A.depth < recursionLimit) (hh : A.handled = none) (hx : x.length ≤ 1000) (hy : 1 ≤ y.length) (hy2 : y.length ≤ 2)
    (h : ∀ h' tk t, Fr G L h' m → News G L h' news → QQ (.str z t) { s with heap := h', toks := tk }) : wpAny (model PG w) A (call (.ref 106) [.str x tx, .str y ty]) QQ E s := by
  subst e
  exact capK F N X T hroom hh hx hy hy2 h
theorem wordsKe {x : Str} {tx : Tok} {z : Str} (e : wordsS x = z) (F : Fr G L s.heap m) (N : News G L s.heap news) (X : (hd.heap_39 w.params).In G) (T : TopV mean mg mb G) (hroom : A.depth + 1 < recursionLimit) (hh : A.handled = none) (hx : x.length ≤ 1000) (g : Good x)
    (h : ∀ h' tk t, Fr G L h' m → News G L h' news → QQ (.str z t) { s with heap := h', toks := tk }) : wpAny (model PG w) A (call (.ref 120) [.str x tx]) QQ E s := by
  subst e
  exact wordsK F N X T hroom hh hx g h
theorem greatKe {x y : Str} {tx ty : Tok} {z : Str} (e : greatS x y = z) (F : Fr G L s.heap m) (N : News G L s.heap news) (X : (hd.heap_39 w.params).In G) (T : TopV mean mg mb G) (hroom : A.depth < recursionLimit) (hh : A.handled = none) (hx : x.length ≤ 1000) (hy : 1 ≤ y.length) (hy2 : y.length ≤ 2) (g : Good x)
    (h : ∀ h' tk t, Fr G L h' m → News G L h' news → QQ (.str z t) { s with heap := h', toks := tk }) : wpAny (model PG w) A (call (.ref 113) [.str x tx, .str y ty]) QQ E s := by
  subst e
  exact greatK F N X T hroom hh hx hy hy2 g h
end
end Mine
end

section
open PySem PySem.W PyProof.Rows PySem.Calls Builtin Builtin.ObjectAttr
set_option maxRecDepth 100000
set_option maxHeartbeats 1000000
namespace Mine
structure PrsL (tl : List (Addr × Obj)) (vs : List Value) (ps : List (Str × Str)) : Prop where
  len : vs.length = ps.length
  tup : ∀ q ∈ tl, q.2.cls = .type "tuple" ∧ ∃ z n, q.2.data = .seq z n
  at_ : ∀ (j : Nat) p, ps[j]? = some p → ∃ T ot tx ty n, vs[j]? = some (.ref T) ∧ (T, ot) ∈ tl ∧ ot.cls = .type "tuple" ∧ ot.data = .seq #[.str p.1 tx, .str p.2 ty] n
theorem PrsL.prs {tl : List (Addr × Obj)} {vs : List Value} {ps : List (Str × Str)} {h : Heap} (x : PrsL tl vs ps) (ht : ∀ q ∈ tl, h.get? q.1 = some q.2) : Prs h vs ps :=
  ⟨x.len, fun j p e => by obtain ⟨T, ot, tx, ty, n, e1, e2, e3, e4⟩ := x.at_ j p e; exact ⟨_, e1, T, tx, ty, rfl, ot, ht _ e2, e3, n, e4⟩⟩
theorem PrsL.nil : PrsL [] [] [] := ⟨rfl, (fun _ h => nomatch h), fun j p e => nomatch e⟩
theorem PrsL.snoc {tl : List (Addr × Obj)} {vs : List Value} {ps : List (Str × Str)} (x : PrsL tl vs ps) {t : Addr} {p : Str × Str} {tx ty : Tok} :
    PrsL ((t, { cls := .type "tuple", data := .seq #[.str p.1 tx, .str p.2 ty] }) :: tl) (vs ++ [.ref t]) (ps ++ [p]) := by
  refine ⟨by simp [x.len], fun q hq => ?_, fun j q e => ?_⟩
  · rcases List.mem_cons.mp hq with rfl | hq
    · exact ⟨rfl, _, _, rfl⟩
    · exact x.tup q hq
  · by_cases hj : j < ps.length
    · rw [List.getElem?_append_left hj] at e
      obtain ⟨T, ot, tx', ty', n, e1, e2, e3, e4⟩ := x.at_ j q e
      exact ⟨T, ot, tx', ty', n, by rw [List.getElem?_append_left (x.len ▸ hj)]; exact e1, .tail _ e2, e3, e4⟩
    · rw [List.getElem?_append_right (Nat.le_of_not_lt hj)] at e
      have hz : j - ps.length = 0 := by
        rcases Nat.eq_zero_or_pos (j - ps.length) with z | z
        · exact z
        · rw [List.getElem?_eq_none (show [p].length ≤ j - ps.length from z)] at e; cases e
      rw [hz] at e
      cases e
      refine ⟨t, _, tx, ty, 0, ?_, .head _, rfl, rfl⟩
      have : j = vs.length := (ax_lt hj hz).trans x.len.symm
      rw [this]; simp
section
variable {w : World} {A : Around} {s : Shared} {a d L l : Addr} {us : List Value} {k : Int} {mg mb m : Str → Option Value} {mean : ExcName → Option Value} {G : Heap} {E : Value → Shared → Prop} {ps : List (Str × Str)} {news : List (Addr × Obj)} {env : Env}
theorem for_push {pa pb tp pi p1 p2 p3 p4 p5 p6 pos : Pos} {kk n n0 : Nat} {tk0 tn0 : Tok} {pl : Sem Bool} {Q : Flow → Shared → Prop} (hh : A.handled = none) (hroom : A.depth < recursionLimit)
    (F : Fr G L s.heap m) (N : News G L s.heap ((a, accObj d [] n) :: news)) (hdm : (d, szDict w k tk0 tn0 n0) ∈ news) (hna : ∀ p ∈ news, p.1 ≠ a) (X : (hd.heap_39 w.params).In G) (T : TopV mean mg mb G)
    (hl : G.IsList l us.toArray) (hp : Prs G us ps) (hn : ps.length ≤ 900) (h1 : m (Str.ofString "plain") = some (.ref l)) (h2 : m (Str.ofString "former") = some (.ref a))
    (hkf : env.scope.kind = .function) (k1 : env.kindOf (Str.ofString "plain") = some .local) (k2 : env.kindOf (Str.ofString "former") = some .local) (k3 : env.kindOf (Str.ofString "blanks") = some .local) (k4 : env.kindOf (Str.ofString "part") = some .local) (hloc : env.locals = L) (hint : interactive env = false)
    (he : eval (.Call (.Attribute (nm "former" p1) (Str.ofString "push") p2) [nm "blanks" p3, nm "part" p4] [] p5) env = (do
      let ov ← eval (nm "former" p1) env
      standAt p2.atName
      let (f, first) ← holding [ov] (getMethod ov (Str.ofString "push") pl)
      callWith p5 f first (backTo p5 (starEach [nm "blanks" p3, nm "part" p4] env)) []))
    (h : ∀ h' tk' vs n' tl vb va, Fr G L h' (fun y => if y = Str.ofString "part" then vb else if y = Str.ofString "blanks" then va else m y) → News G L h' ((a, accObj d vs n') :: (tl ++ news)) → PrsL tl vs ps → Q .next { s with heap := h', toks := tk' }) :
    wpAny (model PG w) A (exec (.For (.Tuple [nm "blanks" pa, nm "part" pb] kk tp) (nm "plain" pi) [.Expr (.Call (.Attribute (nm "former" p1) (Str.ofString "push") p2) [nm "blanks" p3, nm "part" p4] [] p5) p6] [] pos) env) Q E s := by
  subst hloc
  have nb : Str.ofString "blanks" ≠ Str.ofString "part" := by decide
  have nf1 : Str.ofString "former" ≠ Str.ofString "part" := by decide
  have nf2 : Str.ofString "former" ≠ Str.ofString "blanks" := by decide
  have hcl : (env.scope.kind == .class || (env.scope.kind == .module && env.locals != env.globals)) = false := by rw [hkf]; rfl
  refine wpAny_For (wpAny_Name (wpAny_loadName_local hkf k1 F.ns h1 ?_) (by decide)) (fun _ => rfl)
  refine wpAny_pyIter_list (hl.at fun o e => F.keep _ _ e) ?_
  have up : ∀ b o, s.heap.get? b = some o → (s.heap.push { cls := .type "list_iterator", data := .fields #[.ref l, .int 0 0] }).get? b = some o := fun b o e => Heap.get?_push_of_some _ e
  have lt : ∀ b o, s.heap.get? b = some o → b ≠ s.heap.objs.size := fun b o e => Nat.ne_of_lt (Heap.lt_size e)
  have hIG : G.get? s.heap.objs.size = none := by
    cases q : G.get? s.heap.objs.size with
    | none => rfl
    | some o => exact absurd (Heap.lt_size (F.keep _ _ q)) (Nat.lt_irrefl _)
  have hLI : env.locals ≠ s.heap.objs.size := Nat.ne_of_lt F.ns.lt
  refine codeAny_forLoop_any (fun kn s' => ∃ i h' tk' vs n' tl vb va, s' = { s with heap := h', toks := tk' } ∧ i ≤ ps.length ∧ kn = ps.length + 1 - i ∧ h'.IsListIter s.heap.objs.size l i ∧
      Fr G env.locals h' (fun y => if y = Str.ofString "part" then vb else if y = Str.ofString "blanks" then va else m y) ∧ News G env.locals h' ((a, accObj d vs n') :: (tl ++ news)) ∧ PrsL tl vs (ps.take i) ∧ (∀ p ∈ (a, accObj d vs n') :: (tl ++ news), p.1 ≠ s.heap.objs.size)) ?_ (ps.length + 1)
    ⟨0, _, s.toks, [], n, [], m (Str.ofString "part"), m (Str.ofString "blanks"), rfl, Nat.zero_le _, rfl, ⟨_, Heap.get?_push_size _ rfl, rfl, rfl⟩, ite_self2 (x1 := Str.ofString "part") (x2 := Str.ofString "blanks") m ▸ fr_grow F up, fun p hp => ⟨up _ _ (N p hp).1, (N p hp).2⟩, by simpa using PrsL.nil, fun p hp => lt _ _ (N p hp).1⟩
  rintro kn s' ⟨i, h', tk', vs, n', tl, vb, va, rfl, hi, rfl, hit, F', N', hpl, hI⟩
  have hl' : h'.IsList l us.toArray := hl.at fun o e => F'.keep _ _ e
  by_cases hlt : i < ps.length
  · obtain ⟨v, e1, TT, tx, ty, rfl, ht⟩ := hp.at_ i ps[i] (List.getElem?_eq_getElem hlt)
    refine wpAny_pyNext_list_item hit hl' (by simpa using e1) fun h₂ hit₂ hs₂ => ?_
    refine wpAny_letOwnedTupleGo_listiter hit₂ ?_
    have F₂ : Fr G env.locals h₂ _ := ⟨F'.ns.at' fun o e => hs₂.extBut _ _ hLI e, fun b o e => hs₂.extBut b o (fun z => by rw [z, hIG] at e; cases e) (F'.keep b o e), F'.above⟩
    have N₂ : News G env.locals h₂ ((a, accObj d vs n') :: (tl ++ news)) := fun p hp => ⟨hs₂.extBut _ _ (hI p hp) (N' p hp).1, (N' p hp).2⟩
    have ht₂ : h₂.IsTuple TT #[.str ps[i].1 tx, .str ps[i].2 ty] := by
      obtain ⟨o, e, r⟩ := ht
      exact ⟨o, F₂.keep _ _ e, r⟩
    refine kcp_assign hh ht₂ k3 k4 hcl F₂.ns fun h₃ tk₃ hn₃ hk₃ => ?_
    have GL : G.get? env.locals = none := Heap.get?_none_of_le F.above
    have F₃ : Fr G env.locals h₃ (fun y => if y = Str.ofString "part" then some (.str ps[i].2 ty) else if y = Str.ofString "blanks" then some (.str ps[i].1 tx) else m y) := by
      refine ⟨?_, fun b o e => hk₃ b o (fun z => by rw [z, GL] at e; cases e) (F₂.keep b o e), F.above⟩
      exact ite_shadow2 (x1 := Str.ofString "part") (x2 := Str.ofString "blanks") (some (Value.str ps[i].2 ty)) (some (Value.str ps[i].1 tx)) vb va m ▸ hn₃
    have N₃ : News G env.locals h₃ ((a, accObj d vs n') :: (tl ++ news)) := fun p hp => ⟨hk₃ _ _ (N₂ p hp).2.1 (N₂ p hp).1, (N₂ p hp).2⟩
    have hit₃ : h₃.IsListIter s.heap.objs.size l (i + 1) := hit₂.at fun o e => hk₃ _ o (Ne.symm hLI) e
    have hlenv : vs.length = i := hpl.len.trans (by rw [List.length_take]; exact Nat.min_eq_left (Nat.le_of_lt hlt))
    have hda : a ≠ d := Ne.symm (hna _ hdm)
    have xa : Acc w h₃ a d vs k := ⟨⟨n', (N₃ _ (.head _)).1⟩, ⟨tk0, tn0, n0, (N₃ _ (.tail _ (List.mem_append_right _ hdm))).1⟩, hlenv.symm ▸ Nat.le_trans (Nat.le_of_lt hlt) (Nat.le_trans hn (by decide))⟩
    have nA := (N₃ _ (.head _)).2
    have nD := (N₃ _ (.tail _ (List.mem_append_right _ hdm))).2.2
    obtain ⟨of, hof⟩ : ∃ o, (KF w).lookup 38 = some o := ⟨_, rfl⟩
    refine wpAny_execs_cons (wpAny_Expr (hi := hint) ?_)
    refine MethodCall_ (pl := pl) ?_ he
    refine wpAny_Name (wpAny_loadName_local hkf k2 F₃.ns (by simpa [nf1, nf2] using h2) ?_) (by decide)
    refine acc_meth (f := .ref 38) (T := "function") (X.keeps F₃.keep) xa (by kernel_rfl) (by kernel_rfl) (by decide) (by decide) ?_
    obtain ⟨oc, od, fd, sl, hff⟩ : ∃ oc od fd sl, (KF w).lookup 38 = some ⟨oc, od, .func fd, sl⟩ := ⟨_, _, _, _, rfl⟩
    refine callWith_meth (h₀ := G) rfl (X _ _ hff) (spliced_more (wpAny_Name (wpAny_loadName_local hkf k3 F₃.ns (show (if Str.ofString "blanks" = Str.ofString "part" then some (Value.str ps[i].2 ty) else if Str.ofString "blanks" = Str.ofString "blanks" then some (Value.str ps[i].1 tx) else m (Str.ofString "blanks")) = some (.str ps[i].1 tx) from by rw [if_neg nb, if_pos rfl]) ?_) (by decide)))
    refine spliced_more (wpAny_Name (wpAny_loadName_local hkf k4 F₃.ns (if_pos rfl) ?_) (by decide))
    refine spliced_none ⟨F₃.keep, ?_⟩
    refine wpAny_call (push_code (h₀ := G) ⟨X, T, F₃.keep⟩ hroom nA.2 nD hda xa (hlenv.symm ▸ Nat.lt_of_lt_of_le hlt (Nat.le_trans hn (by decide))) fun h₄ t tk₄ kp tn tt xa' => ?_)
    obtain ⟨⟨n4, a4⟩, _, _⟩ := xa'
    have htl : ∀ p ∈ tl ++ news, p.1 ≠ a := fun p hp => by
      rcases List.mem_append.mp hp with q | q
      · intro z
        have e1 := (N₃ p (.tail _ hp)).1
        rw [z, (N₃ _ (.head _)).1] at e1
        have := (hpl.tup p q).1
        rw [← Option.some.inj e1] at this
        cases this
      · exact hna p q
    have htL : t ≠ env.locals := fun z => by obtain ⟨o, _, _, e, _⟩ := F₃.ns; dsimp only at tn; rw [z, e] at tn; cases tn
    have htG : G.get? t = none := by
      cases q : G.get? t with
      | none => rfl
      | some o => have := F₃.keep t o q; dsimp only at tn; rw [tn] at this; cases this
    have haL : a ≠ env.locals := nA.1
    have N₄ : News G env.locals h₄ ((a, accObj d (vs ++ [.ref t]) n4) :: ((t, { cls := .type "tuple", data := .seq #[.str ps[i].1 tx, .str ps[i].2 ty] }) :: tl ++ news)) := fun p hp => by
      rcases List.mem_cons.mp hp with rfl | hp
      · exact ⟨a4, nA⟩
      rcases List.mem_cons.mp hp with rfl | hp
      · exact ⟨tt, htL, htG⟩
      · exact ⟨kp _ _ (htl p hp) (N₃ p (.tail _ hp)).1, (N₃ p (.tail _ hp)).2⟩
    refine wpAny_execs_nil ?_
    refine ⟨ps.length + 1 - (i + 1), ax_turn hlt, i + 1, h₄, _, vs ++ [.ref t], n4, _, _, _, rfl, hlt, rfl, hit₃.at fun o e => kp _ _ (fun z => ?_) e, ⟨F₃.ns.at' fun o e => kp _ _ (Ne.symm haL) e, fun b o e => kp b o (fun z => by rw [z, nA.2] at e; cases e) (F₃.keep b o e), F.above⟩, N₄, ?_, fun p hp => ?_⟩
    · exact hI _ (.head _) z.symm
    · rw [List.take_add_one, List.getElem?_eq_getElem hlt]
      exact hpl.snoc
    · rcases List.mem_cons.mp hp with rfl | hp
      · exact hI (a, accObj d vs n') (.head _)
      rcases List.mem_cons.mp hp with rfl | hp
      · intro z
        obtain ⟨o, e, _⟩ := hit₃
        dsimp only at tn z
        rw [z, e] at tn; cases tn
      · exact hI p (.tail _ hp)
  · have hin : i = ps.length := Nat.le_antisymm hi (Nat.not_lt.mp hlt)
    subst hin
    refine wpAny_pyNext_list_end hh hit hl' (by simp [hp.len]) fun h₂ hs₂ => wpAny_execs_nil ?_
    rw [List.take_length] at hpl
    exact h h₂ _ vs n' tl vb va ⟨F'.ns.at' fun o e => hs₂ _ _ hLI e, fun b o e => hs₂ b o (fun z => by rw [z, hIG] at e; cases e) (F'.keep b o e), F'.above⟩ (fun p hp => ⟨hs₂ _ _ (hI p hp) (N' p hp).1, (N' p hp).2⟩) hpl
end
end Mine
end

section
open PySem PySem.W PyProof.Rows PySem.Calls Builtin Builtin.ObjectAttr
set_option maxRecDepth 100000
set_option maxHeartbeats 1000000
namespace Mine
theorem PrsL.take {tl : List (Addr × Obj)} {vs : List Value} {ps : List (Str × Str)} (x : PrsL tl vs ps) (c : Nat) : PrsL tl (vs.take c) (ps.take c) := by
  refine ⟨by simp [x.len], x.tup, fun j p e => ?_⟩
  have hj : j < c := by
    rcases Nat.lt_or_ge j c with z | z
    · exact z
    · rw [List.getElem?_eq_none (by simp; omega)] at e; cases e
  rw [List.getElem?_take_of_lt hj] at e ⊢
  exact x.at_ j p e
theorem PrsL.drop {tl : List (Addr × Obj)} {vs : List Value} {ps : List (Str × Str)} (x : PrsL tl vs ps) (c : Nat) : PrsL tl (vs.drop c) (ps.drop c) := by
  refine ⟨by simp [x.len], x.tup, fun j p e => ?_⟩
  rw [List.getElem?_drop] at e ⊢
  exact x.at_ _ p e
section
variable {w : World} {A : Around} {s : Shared} {a d P Q L : Addr} {vs us : List Value} {k : Int} {mg mb m : Str → Option Value} {mean : ExcName → Option Value} {G : Heap} {E : Value → Shared → Prop} {ps : List (Str × Str)} {news tl : List (Addr × Obj)} {QQ : Value → Shared → Prop}
theorem hold_led {h : Heap} {n n0 : Nat} {tk tn : Tok} (N : News G L h news) (h1 : (a, accObj d vs n) ∈ news) (h2 : (d, szDict w k tk tn n0) ∈ news) (hpl : PrsL tl vs ps) (htl : ∀ q ∈ tl, q ∈ news) (hn : ps.length ≤ 1000) (sm : ∀ p ∈ ps, p.1.length ≤ 1000 ∧ p.2.length ≤ 1000) (hk : 0 ≤ k ∧ k ≤ 1000) : Hold w h a d vs k ps :=
  ⟨⟨⟨n, (N _ h1).1⟩, ⟨tk, tn, n0, (N _ h2).1⟩, by rw [hpl.len]; exact hn⟩, hpl.prs fun q hq => (N q (htl q hq)).1, sm, hk⟩
theorem fresh_ne {h : Heap} {b c : Addr} {o : Obj} (e : h.get? b = some o) (hc : h.objs.size ≤ c) : b ≠ c := Nat.ne_of_lt (Nat.lt_of_lt_of_le (Heap.lt_size e) hc)
theorem createK {rest : List Value} {tk : Tok} (F : Fr G L s.heap m) (N : News G L s.heap news) (X : (hd.heap_39 w.params).In G) (T : TopV mean mg mb G) (hroom : A.depth + 2 < recursionLimit) (hargs : rest = [.int k tk] ∨ (rest = [] ∧ k = 0))
    (h : ∀ a d h' tk' n n0 t1 t2, Fr G L h' m → News G L h' ((a, accObj d [] n) :: (d, szDict w k t1 t2 n0) :: news) → a ≠ d → (∀ p ∈ news, p.1 ≠ a ∧ p.1 ≠ d) → QQ (.ref a) { s with heap := h', toks := tk' }) :
    wpAny (model PG w) A (call (.ref 94) rest) QQ E s := by
  refine wpAny_call (create_code (h₀ := G) ⟨X, T, F.keep⟩ hroom hargs fun a d h' tk' kp ha hd had xa => ?_)
  obtain ⟨⟨n, e1⟩, ⟨t1, t2, n0, e2⟩, _⟩ := xa
  have gn : ∀ c, s.heap.objs.size ≤ c → G.get? c = none := fun c hc => by
    cases q : G.get? c with
    | none => rfl
    | some o => exact absurd rfl (fresh_ne (F.keep _ _ q) hc)
  have gl : ∀ c, s.heap.objs.size ≤ c → c ≠ L := fun c hc z => by obtain ⟨o, _, _, e, _⟩ := F.ns; exact fresh_ne e hc z.symm
  refine h a d h' tk' n n0 t1 t2 (fr_grow F kp) (fun p hp => ?_) had fun p hp => ⟨fresh_ne (N p hp).1 ha, fresh_ne (N p hp).1 hd⟩
  rcases List.mem_cons.mp hp with rfl | hp
  · exact ⟨e1, gl _ ha, gn _ ha⟩
  rcases List.mem_cons.mp hp with rfl | hp
  · exact ⟨e2, gl _ hd, gn _ hd⟩
  · exact ⟨kp _ _ (N p hp).1, (N p hp).2⟩
theorem popfK {i : Int} {ti : Tok} {n n0 : Nat} {tk tn : Tok} (F : Fr G L s.heap m) (N : News G L s.heap ((a, accObj d vs n) :: news)) (hdm : (d, szDict w k tk tn n0) ∈ news) (hna : ∀ p ∈ news, p.1 ≠ a) (X : (hd.heap_39 w.params).In G) (T : TopV mean mg mb G) (hroom : A.depth < recursionLimit) (hvs : vs.length ≤ 1000) (hi : 0 ≤ i) (hi2 : i ≤ 100)
    (h : ∀ D h' tk' n', Fr G L h' m → News G L h' ((D, listOf (vs.drop i.toNat).toArray 0) :: (a, accObj d (vs.take i.toNat) n') :: news) → D ≠ a → (∀ p ∈ news, p.1 ≠ D) → QQ (.ref D) { s with heap := h', toks := tk' }) :
    wpAny (model PG w) A (call (.ref 46) [.ref a, .int i ti]) QQ E s := by
  have NA := N _ (.head _)
  have ND := N _ (.tail _ hdm)
  refine wpAny_call (pop_from_code (h₀ := G) ⟨X, T, F.keep⟩ hroom NA.2.2 ND.2.2 (Ne.symm (hna _ hdm)) ⟨⟨n, NA.1⟩, ⟨tk, tn, n0, ND.1⟩, hvs⟩ hi hi2 fun h' D tk' kp hD eD xa => ?_)
  obtain ⟨⟨n', e1⟩, _, _⟩ := xa
  have nD : ∀ b o, s.heap.get? b = some o → b ≠ D := fun b o e z => by rw [z, hD] at e; cases e
  refine h D h' tk' n' ⟨F.ns.at' fun o e => kp _ _ (Ne.symm NA.2.1) e, fun b o e => kp b o (fun z => by rw [z, NA.2.2] at e; cases e) (F.keep b o e), F.above⟩ (fun p hp => ?_) (Ne.symm (nD _ _ NA.1)) fun p hp => nD _ _ (N p (.tail _ hp)).1
  rcases List.mem_cons.mp hp with rfl | hp
  · refine ⟨eD, ?_, ?_⟩
    · intro z; obtain ⟨o, _, _, e, _⟩ := F.ns; exact nD _ _ e z.symm
    · cases q : G.get? D with
      | none => rfl
      | some o => exact absurd rfl (nD _ _ (F.keep _ _ q))
  rcases List.mem_cons.mp hp with rfl | hp
  · exact ⟨e1, NA.2⟩
  · exact ⟨kp _ _ (hna p hp) (N p (.tail _ hp)).1, (N p (.tail _ hp)).2⟩
theorem resetK {l : Addr} {n n0 nl : Nat} {tk tn : Tok} (F : Fr G L s.heap m) (N : News G L s.heap ((a, accObj d vs n) :: (d, szDict w k tk tn n0) :: news)) (hlm : (l, listOf us.toArray nl) ∈ news) (hna : ∀ p ∈ news, p.1 ≠ a ∧ p.1 ≠ d) (had : a ≠ d) (X : (hd.heap_39 w.params).In G) (T : TopV mean mg mb G) (hroom : A.depth < recursionLimit) (hvs : vs.length ≤ 1000) (hus : us.length ≤ 1000)
    (h : ∀ h' tk' n' n0' t1 t2, Fr G L h' m → News G L h' ((a, accObj d us n') :: (d, szDict w 0 t1 t2 n0') :: news) → QQ .none { s with heap := h', toks := tk' }) :
    wpAny (model PG w) A (call (.ref 76) [.ref a, .ref l]) QQ E s := by
  have NA := N _ (.head _)
  have ND := N _ (.tail _ (.head _))
  have Nl := N _ (.tail _ (.tail _ hlm))
  refine wpAny_call (reset_code (h₀ := G) ⟨X, T, F.keep⟩ hroom NA.2.2 ND.2.2 (Ne.symm had) ⟨⟨n, NA.1⟩, ⟨tk, tn, n0, ND.1⟩, hvs⟩ ⟨_, Nl.1, rfl, _, rfl⟩ (hna _ hlm).1 (hna _ hlm).2 hus fun h' tk' kp xa => ?_)
  obtain ⟨⟨n', e1⟩, ⟨t1, t2, n0', e2⟩, _⟩ := xa
  refine h h' tk' n' n0' t1 t2 ⟨F.ns.at' fun o e => kp _ _ (Ne.symm NA.2.1) (Ne.symm ND.2.1) e, fun b o e => kp b o (fun z => by rw [z, NA.2.2] at e; cases e) (fun z => by rw [z, ND.2.2] at e; cases e) (F.keep b o e), F.above⟩ fun p hp => ?_
  rcases List.mem_cons.mp hp with rfl | hp
  · exact ⟨e1, NA.2⟩
  rcases List.mem_cons.mp hp with rfl | hp
  · exact ⟨e2, ND.2⟩
  · exact ⟨kp _ _ (hna p hp).1 (hna p hp).2 (N p (.tail _ (.tail _ hp))).1, (N p (.tail _ (.tail _ hp))).2⟩
end
end Mine
end

section
open PySem PySem.W PyProof.Rows PySem.Calls Builtin Builtin.ObjectAttr
set_option maxRecDepth 100000
set_option maxHeartbeats 1000000
namespace Mine
abbrev tupO (x : Str) (tx : Tok) (y : Str) (ty : Tok) : Obj := { cls := .type "tuple", data := .seq #[.str x tx, .str y ty] }
section
variable {w : World} {A : Around} {s : Shared} {a d P Q L : Addr} {vs us : List Value} {k : Int} {mg mb m : Str → Option Value} {mean : ExcName → Option Value} {G : Heap} {E : Value → Shared → Prop} {ps : List (Str × Str)} {news tl : List (Addr × Obj)} {QQ : Value → Shared → Prop}
theorem pushK {x y : Str} {tx ty : Tok} {n n0 : Nat} {tk tn : Tok} (F : Fr G L s.heap m) (N : News G L s.heap ((a, accObj d vs n) :: news)) (hdm : (d, szDict w k tk tn n0) ∈ news) (hna : ∀ p ∈ news, p.1 ≠ a) (X : (hd.heap_39 w.params).In G) (T : TopV mean mg mb G) (hroom : A.depth < recursionLimit) (hvs : vs.length < 1000)
    (h : ∀ t h' tk' n', Fr G L h' m → News G L h' ((a, accObj d (vs ++ [.ref t]) n') :: (t, tupO x tx y ty) :: news) → t ≠ a → (∀ p ∈ news, p.1 ≠ t) → QQ .none { s with heap := h', toks := tk' }) :
    wpAny (model PG w) A (call (.ref 38) [.ref a, .str x tx, .str y ty]) QQ E s := by
  have NA := N _ (.head _)
  have ND := N _ (.tail _ hdm)
  refine wpAny_call (push_code (h₀ := G) ⟨X, T, F.keep⟩ hroom NA.2.2 ND.2.2 (Ne.symm (hna _ hdm)) ⟨⟨n, NA.1⟩, ⟨tk, tn, n0, ND.1⟩, Nat.le_of_lt hvs⟩ hvs fun h' t tk' kp ht et xa => ?_)
  obtain ⟨⟨n', e1⟩, _, _⟩ := xa
  have nt : ∀ b o, s.heap.get? b = some o → b ≠ t := fun b o e z => by rw [z, ht] at e; cases e
  refine h t h' tk' n' ⟨F.ns.at' fun o e => kp _ _ (Ne.symm NA.2.1) e, fun b o e => kp b o (fun z => by rw [z, NA.2.2] at e; cases e) (F.keep b o e), F.above⟩ (fun p hp => ?_) (Ne.symm (nt _ _ NA.1)) fun p hp => nt _ _ (N p (.tail _ hp)).1
  rcases List.mem_cons.mp hp with rfl | hp
  · exact ⟨e1, NA.2⟩
  rcases List.mem_cons.mp hp with rfl | hp
  · refine ⟨et, ?_, ?_⟩
    · intro z; obtain ⟨o, _, _, e, _⟩ := F.ns; exact nt _ _ e z.symm
    · cases q : G.get? t with
      | none => rfl
      | some o => exact absurd rfl (nt _ _ (F.keep _ _ q))
  · exact ⟨kp _ _ (hna p hp) (N p (.tail _ hp)).1, (N p (.tail _ hp)).2⟩
theorem popK {n n0 : Nat} {tk tn : Tok} (F : Fr G L s.heap m) (N : News G L s.heap ((a, accObj d vs n) :: news)) (hdm : (d, szDict w k tk tn n0) ∈ news) (hna : ∀ p ∈ news, p.1 ≠ a) (X : (hd.heap_39 w.params).In G) (T : TopV mean mg mb G) (hroom : A.depth + 1 < recursionLimit) (hvs : vs.length ≤ 1000)
    (h0 : vs = [] → ∀ t h' tk' te te', Fr G L h' m → News G L h' ((t, tupO (Str.ofString "") te (Str.ofString "") te') :: (a, accObj d vs n) :: news) → QQ (.ref t) { s with heap := h', toks := tk' })
    (h1 : ∀ us v, vs = us ++ [v] → ∀ h' tk' n', Fr G L h' m → News G L h' ((a, accObj d us n') :: news) → QQ v { s with heap := h', toks := tk' }) :
    wpAny (model PG w) A (call (.ref 54) [.ref a]) QQ E s := by
  have NA := N _ (.head _)
  have ND := N _ (.tail _ hdm)
  refine wpAny_call (pop_code (h₀ := G) ⟨X, T, F.keep⟩ hroom NA.2.2 ND.2.2 (Ne.symm (hna _ hdm)) ⟨⟨n, NA.1⟩, ⟨tk, tn, n0, ND.1⟩, hvs⟩ (fun hv h' t tk' te te' kp ht et => ?_) fun us v hv h' tk' kp xa => ?_)
  · have nt : ∀ b o, s.heap.get? b = some o → b ≠ t := fun b o e z => by rw [z, ht] at e; cases e
    refine h0 hv t h' tk' te te' (fr_grow F kp) fun p hp => ?_
    rcases List.mem_cons.mp hp with rfl | hp
    · refine ⟨et, ?_, ?_⟩
      · intro z; obtain ⟨o, _, _, e, _⟩ := F.ns; exact nt _ _ e z.symm
      · cases q : G.get? t with
        | none => rfl
        | some o => exact absurd rfl (nt _ _ (F.keep _ _ q))
    · exact ⟨kp _ _ (N p hp).1, (N p hp).2⟩
  · obtain ⟨⟨n', e1⟩, _, _⟩ := xa
    refine h1 us v hv h' tk' n' ⟨F.ns.at' fun o e => kp _ _ (Ne.symm NA.2.1) e, fun b o e => kp b o (fun z => by rw [z, NA.2.2] at e; cases e) (F.keep b o e), F.above⟩ fun p hp => ?_
    rcases List.mem_cons.mp hp with rfl | hp
    · exact ⟨e1, NA.2⟩
    · exact ⟨kp _ _ (hna p hp) (N p (.tail _ hp)).1, (N p (.tail _ hp)).2⟩
end
end Mine
end

section
open PySem PySem.W PyProof.Rows PySem.Calls Builtin Builtin.ObjectAttr
set_option maxRecDepth 100000
namespace Mine
section
variable {w : World} {G h : Heap} {L a d : Addr} {vs : List Value} {n : Nat} {rest : List (Addr × Obj)}
theorem na_of (N : News G L h ((a, accObj d vs n) :: rest)) (hc : ∀ p ∈ rest, p.2.cls ≠ .ref 94 ∨ ∃ z, p.2.data = .fields z) : ∀ p ∈ rest, p.1 ≠ a := by
  intro p hp z
  have e1 := (N p (.tail _ hp)).1
  rw [z, (N _ (.head _)).1] at e1
  have e2 := Option.some.inj e1
  rcases hc p hp with q | ⟨y, q⟩
  · exact q (by rw [← e2])
  · rw [← e2] at q; cases q
theorem nd_of {k : Int} {tk tn : Tok} {n0 : Nat} (N : News G L h ((d, szDict w k tk tn n0) :: rest)) (hc : ∀ p ∈ rest, p.2.cls ≠ .type "dict" ∨ ∃ z, p.2.data = .fields z) : ∀ p ∈ rest, p.1 ≠ d := by
  intro p hp z
  have e1 := (N p (.tail _ hp)).1
  rw [z, (N _ (.head _)).1] at e1
  have e2 := Option.some.inj e1
  rcases hc p hp with q | ⟨y, q⟩
  · exact q (by rw [← e2])
  · rw [← e2] at q; cases q
end
end Mine
end

section
open PySem PySem.W PyProof.Rows PySem.Calls Builtin Builtin.ObjectAttr
set_option maxRecDepth 100000
set_option maxHeartbeats 4000000
namespace Mine
section
variable {w : World} {A : Around} {s s' : Shared} {a d P Q L l : Addr} {vs us : List Value} {k : Int} {R : Result → Shared → Prop} {mg mb m : Str → Option Value} {mean : ExcName → Option Value} {G h₀ : Heap} {E : Value → Shared → Prop} {ps : List (Str × Str)} {oP oQ : Obj} {news pre post : List (Addr × Obj)}
theorem list_hide (W : Wd w mean mg mb h₀ P Q s) (x : s.heap.IsList l us.toArray) : (hideAll s.heap [P, Q]).IsList l us.toArray := by
  obtain ⟨o, e1, e2, n, e3⟩ := x
  obtain ⟨_, cP⟩ := W.cP
  obtain ⟨_, cQ⟩ := W.cQ
  obtain ⟨op, hop, hpd⟩ := code_tab cP
  obtain ⟨oq, hoq, hqd⟩ := code_tab cQ
  have n1 : l ≠ P := fun z => by rw [z, hop] at e1; cases e1; rw [hpd] at e3; cases e3
  have n2 : l ≠ Q := fun z => by rw [z, hoq] at e1; cases e1; rw [hqd] at e3; cases e3
  exact ⟨o, hideAll_get _ e1 (by simp [n1, n2]), e2, n, e3⟩
theorem prs_hide (W : Wd w mean mg mb h₀ P Q s) (x : Prs s.heap us ps) : Prs (hideAll s.heap [P, Q]) us ps := by
  have S : Stp P Q s ⟨hideAll s.heap [P, Q], s.gens, s.drawn, s.toks, s.os⟩ := ⟨fun b o h1 h2 e => hideAll_get _ e (by simp [h1, h2]), rfl, rfl⟩
  exact x.stp W S
theorem lenL {n : Nat} {QQ : Value → Shared → Prop} (hl : s.heap.IsList l us.toArray) (hn : us.length = n) (hs : n ≤ 1000) (h : ∀ t k, QQ (.int n t) { s with toks := k }) : wpAny (model PG w) A (call (.builtin "len") [.ref l]) QQ E s := by
  refine PyProof.Rows.len_list hl (by rw [List.size_toArray]; omega) ?_
  rw [List.size_toArray, hn]
  exact h _ _
theorem join_cat {D : Addr} {lt : List (Str × Tok)} {t : Tok} {QQ : Value → Shared → Prop} (N : News G L s.heap ((D, listOf (strValues lt).toArray lt.length) :: news)) (e : lt.map (·.1) = ps.map (fun p => p.1 ++ p.2)) (hsm : ∀ p ∈ ps, p.1.length ≤ 1000 ∧ p.2.length ≤ 1000) (hn : ps.length ≤ 1000)
    (h : ∀ t k, News G L s.heap news → QQ (.str (cat ps) t) { s with toks := k }) : wpAny (model PG w) A (call (.builtin "str.join") [.str (Str.ofString "") t, .ref D]) QQ E s := by
  have N0 : News G L s.heap news := fun p hp => N p (.tail _ hp)
  refine SC.join (l := lt) ⟨_, (N _ (.head _)).1, rfl, _, rfl⟩ e (joinOk_of ?_) fun t k => h t k N0
  have h1 := cat_sum ps hsm
  have h2 : (Str.ofString "").length = 0 := rfl
  rw [h2, Nat.mul_zero, Nat.add_zero]
  have : ps.length * 2000 ≤ 1000 * 2000 := Nat.mul_le_mul_right _ hn
  omega
local macro_rules | `(tactic| walk_at "call builtin:str.join") => `(tactic| (k_here; refine stop1 ?_))
local macro_rules | `(tactic| walk_at "getMethod ref") => `(tactic| (k_here; refine stop1 ?_))
local macro_rules | `(tactic| walk_at "call ref") => `(tactic| (k_here; refine stop1 ?_))
local macro_rules | `(tactic| walk_at "call builtin:len") => `(tactic| (k_here; (with_reducible show wpAny _ _ (call _ [Value.ref _]) _ _ _); refine stop1 ?_))
local macro_rules | `(tactic| walk_at "call type:str") => `(tactic| (k_here; (with_reducible show wpAny _ _ (call _ [Value.ref _]) _ _ _); refine stop1 ?_))
theorem looks_wd {mk : Str} {tk tm : Tok} (W : Wd w mean mg mb h₀ P Q s) (hroom : A.depth + 6 < recursionLimit) (hu : A.units + 20 < cLine) (hh : A.handled = none) (x : Hold w s.heap a d vs k ps) (hl : s.heap.IsList l us.toArray) (hp : Prs s.heap us ps) (hsum : lens ps ≤ 1000) (hcat : (cat ps).length = lens ps) (hg : Good (cat ps)) (hm1 : 1 ≤ mk.length) (hm2 : mk.length ≤ 2)
    (hE1 : wordsS (cat ps) = capN (cat ps)) (hE2 : greatS (cat ps) mk = capS (cat ps) mk) (hE3 : onlyB k ps = (k == 0 && capN (cat ps) == Str.ofString ""))
    (h : ∀ s', Wd w mean mg mb h₀ P Q s' → Stp P Q s s' → R (.ok (.ret (.bool true))) s') : codeAny (model PySem.Challenge.rw_nb0052_01.row.prog w) A (.call (.ref 125) ⟨[.ref a, .ref l, .int k tk, .str mk tm], []⟩) R s := by
  obtain ⟨hd9, dp9, fr9, gd9, units9⟩ := A
  cases hh
  have X : (hd.heap_39 w.params).In s.heap := W.X
  have T := W.T
  obtain ⟨oP, oQ, tP, tQ, eP, eQ⟩ := led_wd W
  have gh := W.g.hide [P, Q] (by intro b hb; simp only [List.mem_cons, List.not_mem_nil, or_false] at hb; rcases hb with rfl | rfl; exact W.nP; exact W.nQ)
  have xG := hold_hide W x
  have lG := list_hide W hl
  have pG := prs_hide W hp
  revert X; k_fill; intro X
  k_dflt (refine' enterP X T (Nat.lt_of_le_of_lt (Nat.le_add_right _ 6) hroom) ?k6 ?k7 ?k9 ?kB ?_ ?c1 ?c2 ?c3 ?c4; (case k6 => k_is); (case k7 => k_is); (case k9 => exact BindsTo.of_eq rfl); (case kB => exact locs rfl); (case c1 => decide); (case c2 => exact rfl); (case c3 => exact rfl); (case c4 => exact rfl))
  intro h₁ F
  have F1 := fr_hide [P, Q] F
  have N1 : News (hideAll s.heap [P, Q]) s.heap.objs.size h₁ [(P, oP), (Q, oQ)] := by
    intro p hp
    simp only [List.mem_cons, List.not_mem_nil, or_false] at hp
    rcases hp with rfl | rfl
    · exact ⟨F.keep _ _ eP, Nat.ne_of_lt (Heap.lt_size eP), hideAll_none _ (by simp)⟩
    · exact ⟨F.keep _ _ eQ, Nat.ne_of_lt (Heap.lt_size eQ), hideAll_none _ (by simp)⟩
  have GX := gh.X
  have GT := gh.T
  have hsm := x.small
  have hn : ps.length ≤ 1000 := x.prs.len ▸ x.acc.small
  clear F
  iterate 7 walk1
  refine comp_cat rfl F1 N1 lG pG hsm hn rfl rfl rfl rfl rfl (by decide) rfl (by decide) rfl rfl ?_
  intro D lt h2 tk2 e2 F2 N2
  clear F1 N1
  have r : ∀ n env, n ≤ 5 → ((Around.mk none dp9 fr9 gd9 units9).deeper env).depth + n < recursionLimit := fun n env hn => Nat.lt_of_le_of_lt (show dp9 + 1 + n ≤ dp9 + 6 from ax_dep hn) hroom
  have r0 : ∀ env, ((Around.mk none dp9 fr9 gd9 units9).deeper env).depth < recursionLimit := fun env => Nat.lt_of_le_of_lt (show dp9 + 1 ≤ dp9 + 6 from Nat.add_le_add_left (by decide) _) hroom
  have u : ∀ n env, n ≤ 17 → ((Around.mk none dp9 fr9 gd9 units9).deeper env).units + n < cLine := fun n env hn => Nat.lt_of_le_of_lt (show units9 + 3 + n ≤ units9 + 20 from ax_un hn) hu
  k_steps
  refine Stop.mk (join_cat (by k_asm) (by assumption) (by assumption) (by assumption) ?_)
  intro t' k' N'
  k_steps
  have F3 := ‹Fr (hideAll s.heap [P, Q]) s.heap.objs.size _ _›
  try refine Stop.mk ?_
  refine strK (news := []) F3 (by assumption) tP tQ W.ne (fun p hp => nim hp) GX GT W.bare (r 1 _ (by decide)) (u 2 _ (by decide)) rfl (xG.keeps F3.keep) ?_
  intro oP4 oQ4 h4 g4 tk4 t4 F4 N4 tP4 tQ4 b4
  clear F3
  k_steps
  · exfalso
    rename_i bad
    rw [bne_self_eq_false] at bad
    cases bad
  try refine Stop.mk ?_
  refine lenK (news := []) F4 N4 tP4 tQ4 W.ne (fun p hp => nim hp) GX GT b4 (r 2 _ (by decide)) rfl (xG.keeps F4.keep) (Nat.le_trans hsum (by decide)) ?_
  intro oP5 oQ5 h5 g5 tk5 t5 F5 N5 tP5 tQ5 b5
  clear F4 N4
  k_steps
  · exfalso
    rename_i bad
    exact bad (by rw [hcat])
  try refine Stop.mk ?_
  refine methK (f := .ref 91) (TT := "function") F5 GX (xG.keeps F5.keep) (by kernel_rfl) (by kernel_rfl) (by decide) (by decide) ?_
  k_steps
  try refine Stop.mk ?_
  refine (show wpAny _ _ (call (.ref 91) [.ref a]) _ _ _ from ?_)
  try refine Stop.mk ?_
  refine countK F5 N5 GX GT (r0 _) (xG.keeps F5.keep) ?_
  intro h6 tk6 t6 F6 N6
  clear F5 N5
  k_steps
  try refine Stop.mk ?_
  refine lenL (lG.at fun o e => F6.keep _ _ e) hp.len hn ?_
  intro t7 k7
  k_steps
  · exfalso
    rename_i bad
    exact bad rfl
  have F7 := ‹Fr (hideAll s.heap [P, Q]) s.heap.objs.size _ _›
  have N7 := ‹News (hideAll s.heap [P, Q]) s.heap.objs.size _ [(P, oP5), (Q, oQ5)]›
  try refine Stop.mk ?_
  refine capNK F7 N7 GX GT (r0 _) rfl (by rw [hcat]; exact hsum) ?_
  intro h8 tk8 t8 F8 N8
  clear F7 N7
  k_steps
  have F9 := ‹Fr (hideAll s.heap [P, Q]) s.heap.objs.size _ _›
  have N9 := ‹News (hideAll s.heap [P, Q]) s.heap.objs.size _ [(P, oP5), (Q, oQ5)]›
  try refine Stop.mk ?_
  refine wordsKe hE1 F9 N9 GX GT (r 1 _ (by decide)) rfl (by rw [hcat]; exact hsum) hg ?_
  intro h10 tk10 t10 F10 N10
  clear F9 N9
  k_steps
  · exfalso
    rename_i bad
    rw [bne_self_eq_false] at bad
    cases bad
  try refine Stop.mk ?_
  refine capK F10 N10 GX GT (r0 _) rfl (by rw [hcat]; exact hsum) hm1 hm2 ?_
  intro h11 tk11 t11 F11 N11
  clear F10 N10
  k_steps
  try refine Stop.mk ?_
  refine greatKe hE2 F11 N11 GX GT (r0 _) rfl (by rw [hcat]; exact hsum) hm1 hm2 hg ?_
  intro h12 tk12 t12 F12 N12
  clear F11 N11
  k_steps
  · exfalso
    rename_i bad
    rw [bne_self_eq_false] at bad
    cases bad
  try refine Stop.mk ?_
  refine methK (f := .ref 83) (TT := "function") F12 GX (xG.keeps F12.keep) (by kernel_rfl) (by kernel_rfl) (by decide) (by decide) ?_
  k_steps
  try refine Stop.mk ?_
  refine (show wpAny _ _ (call (.ref 83) [.ref a]) _ _ _ from ?_)
  try refine Stop.mk ?_
  refine onlyK (news := []) F12 N12 tP5 tQ5 W.ne (fun p hp => nim hp) GX GT b5 (r 3 _ (by decide)) (u 8 _ (by decide)) rfl (xG.keeps F12.keep) (Nat.le_trans hsum (by decide)) ?_
  intro oP13 oQ13 h13 g13 tk13 F13 N13 tP13 tQ13 b13
  clear F12 N12
  k_steps
  all_goals
    rename_i hk
    obtain ⟨W14, S14⟩ := fin_wd W (wd_of (s := ⟨_, _, _, _, _⟩) F13 GX GT N13 (.head _) (.tail _ (.head _)) tP13 tQ13 W.ne b13) rfl rfl
  · have e : (onlyB k ps == (capN (cat ps) == Str.ofString "")) = true := by rw [hE3, hk]; simp
    rw [e]
    exact h _ W14 S14
  · have e : (onlyB k ps == (k == 0)) = true := by
      have : (k == 0) = false := by simpa using hk
      rw [hE3, this]; rfl
    rw [e]
    exact h _ W14 S14
end
end Mine
end

section
open PySem PySem.W PyProof.Rows PySem.Calls Builtin Builtin.ObjectAttr
set_option maxRecDepth 100000
namespace Mine
abbrev pairD (p : Str × Str) : PyData := .tuple [.str p.1, .str p.2]
theorem pair_reads {h : Heap} {v : Value} {p : Str × Str} (x : PairAt h v p) : ∃ as, Reads h v (pairD p) as := by
  obtain ⟨T, tx, ty, rfl, o, e1, e2, n, e3⟩ := x
  exact ⟨_, Reads.tuple e1 e2 e3 (ReadsAll.cons (Reads.str _ _) (ReadsAll.cons (Reads.str _ _) ReadsAll.nil))⟩
theorem prs_reads {h : Heap} : ∀ {us : List Value} {ps : List (Str × Str)}, Prs h us ps → ∃ as, ReadsAll h us (ps.map pairD) as
  | [], [], _ => ⟨_, ReadsAll.nil⟩
  | [], p :: ps, x => nomatch x.len
  | u :: us, [], x => nomatch x.len
  | u :: us, p :: ps, x => by
    obtain ⟨bs, hb⟩ := prs_reads (us := us) (ps := ps) ⟨Nat.succ.inj x.len, fun j q e => x.at_ (j + 1) q e⟩
    obtain ⟨v, e1, hv⟩ := x.at_ 0 p rfl
    cases e1
    obtain ⟨as, ha⟩ := pair_reads hv
    exact ⟨_, ReadsAll.cons ha hb⟩
theorem list_reads {h : Heap} {l : Addr} {us : List Value} {ps : List (Str × Str)} (hl : h.IsList l us.toArray) (x : Prs h us ps) : ∃ as, Reads h (.ref l) (.list (ps.map pairD)) as := by
  obtain ⟨o, e1, e2, n, e3⟩ := hl
  obtain ⟨as, ha⟩ := prs_reads x
  exact ⟨_, Reads.list e1 e2 e3 (by simpa using ha)⟩
def SOk (ps : List (Str × Str)) : Prop := ∀ p ∈ ps, PyData.strOk p.1 = true ∧ PyData.strOk p.2 = true
theorem lay_pairs : ∀ ps : List (Str × Str), SOk ps → PyData.canLayAll0 (ps.map pairD) = true
  | [], _ => rfl
  | p :: ps, h => by
    have := lay_pairs ps fun q hq => h q (List.mem_cons_of_mem _ hq)
    have h1 := h p List.mem_cons_self
    simp [PyData.canLayAll0, PyData.canLay0, this, h1.1, h1.2]
theorem depth_pairs : ∀ ps : List (Str × Str), PyData.depthAll (ps.map pairD) ≤ 2
  | [] => by simp [PyData.depthAll]
  | p :: ps => by
    have := depth_pairs ps
    simp [PyData.depthAll, PyData.depth]
    omega
theorem shaped_pairs {ps : List (Str × Str)} (hs : SOk ps) : SeqAt.shaped (.list (ps.map pairD)) = true := by
  unfold SeqAt.shaped
  have h1 := lay_pairs ps hs
  have h2 := depth_pairs ps
  simp only [PyData.canLay0, PyData.depth, h1, Bool.true_and]
  exact decide_eq_true (by omega)
theorem shaped_pair {p : Str × Str} (h1 : PyData.strOk p.1 = true) (h2 : PyData.strOk p.2 = true) : SeqAt.shaped (pairD p) = true := by
  simp [h1, h2, SeqAt.shaped, PyData.canLay0, PyData.canLayAll0, PyData.depth, PyData.depthAll]
theorem eqv_pair (p : Str × Str) : (pairD p).eqv (pairD p) = true := by simp [PyData.eqv, PyData.eqvAll]
theorem eqv_pairs : ∀ ps : List (Str × Str), PyData.eqvAll (ps.map pairD) (ps.map pairD) = true
  | [] => by simp [PyData.eqvAll]
  | p :: ps => by
    have h1 := eqv_pair p
    have h2 := eqv_pairs ps
    simp only [List.map_cons, PyData.eqvAll, h1, h2, Bool.and_self]
section
variable {w : World} {A : Around} {s : Shared} {E : Value → Shared → Prop} {QQ : Value → Shared → Prop} {l l' : Addr} {us us' : List Value} {ps : List (Str × Str)}
theorem ne_lists (hs : SOk ps) (hl : s.heap.IsList l us.toArray) (x : Prs s.heap us ps) (hl' : s.heap.IsList l' us'.toArray) (x' : Prs s.heap us' ps) (hu : A.units + 64 < cLine) (h : QQ (.bool false) s) : wpAny (model PG w) A (compareOp .NotEq (.ref l) (.ref l')) QQ E s := by
  obtain ⟨as, r⟩ := list_reads hl x
  obtain ⟨bs, r'⟩ := list_reads hl' x'
  refine ne_dataH r r' (shaped_pairs hs) (shaped_pairs hs) hu ?_
  have : (PyData.list (ps.map pairD)).eqv (PyData.list (ps.map pairD)) = true := by rw [PyData.eqv]; exact eqv_pairs ps
  rw [this]
  exact h
theorem ne_tups {v v' : Value} {p : Str × Str} (h1 : PyData.strOk p.1 = true) (h2 : PyData.strOk p.2 = true) (x : PairAt s.heap v p) (x' : PairAt s.heap v' p) (hu : A.units + 64 < cLine) (h : QQ (.bool false) s) : wpAny (model PG w) A (compareOp .NotEq v v') QQ E s := by
  obtain ⟨as, r⟩ := pair_reads x
  obtain ⟨bs, r'⟩ := pair_reads x'
  refine ne_dataH r r' (shaped_pair h1 h2) (shaped_pair h1 h2) hu ?_
  rw [eqv_pair]
  exact h
end
end Mine
end

section
open PySem PySem.W PyProof.Rows
namespace Mine
def sp (y : List Nat) : List Nat → Nat → List Nat → List (List Nat)
  | [], _, cur => [cur]
  | _ :: l, n + 1, cur => sp y l n cur
  | c :: l, 0, cur => if y.isPrefixOf (c :: l) then cur :: sp y l (y.length - 1) [] else sp y l 0 (cur ++ [c])
def oc (y : List Nat) : List Nat → Nat → Nat → List Nat
  | [], _, _ => []
  | _ :: l, n + 1, i => oc y l n (i + 1)
  | c :: l, 0, i => if y.isPrefixOf (c :: l) then i :: oc y l (y.length - 1) (i + 1) else oc y l 0 (i + 1)
def joinL (y : List Nat) : List (List Nat) → List Nat
  | [] => []
  | [p] => p
  | p :: q :: r => p ++ y ++ joinL y (q :: r)
def capL : List Nat → List Nat
  | [] => []
  | c :: l => upc c :: l.map loc
theorem capL_snoc (l : List Nat) (c : Nat) : capL (l ++ [c]) = capL l ++ [if l.isEmpty then upc c else loc c] := by
  cases l with
  | nil => rfl
  | cons a l => simp [capL]
theorem sp_ne (y : List Nat) : ∀ (l : List Nat) (n : Nat) (cur : List Nat), ∃ p r, sp y l n cur = p :: r
  | [], _, cur => ⟨cur, [], by simp [sp]⟩
  | _ :: l, n + 1, cur => by rw [sp]; exact sp_ne y l n cur
  | c :: l, 0, cur => by
    rw [sp]
    split
    · exact ⟨_, _, rfl⟩
    · exact sp_ne y l 0 _
theorem joinL_cons (y p : List Nat) {r : List (List Nat)} (h : r ≠ []) : joinL y (p :: r) = p ++ y ++ joinL y r := by
  cases r with
  | nil => exact absurd rfl h
  | cons q r => rfl
theorem join_gr (y : List Nat) : ∀ (l : List Nat) (n : Nat) (cur : List Nat), (n ≠ 0 → cur = []) → joinL y ((sp y l n cur).map capL) = capL cur ++ gr y l n cur.isEmpty
  | [], n, cur, _ => by simp [sp, gr, joinL]
  | c :: l, n + 1, cur, hc => by
    rw [sp, gr]
    exact join_gr y l n cur fun _ => hc (Nat.succ_ne_zero n)
  | c :: l, 0, cur, _ => by
    rw [sp, gr]
    by_cases h : y.isPrefixOf (c :: l) = true
    · rw [if_pos h, if_pos h, List.map_cons]
      obtain ⟨p, r, e⟩ := sp_ne y l (y.length - 1) []
      rw [joinL_cons _ _ (by rw [e]; simp), join_gr y l _ [] fun _ => rfl]
      simp [capL]
    · rw [if_neg h, if_neg h, join_gr y l 0 (cur ++ [c]) fun z => absurd rfl z, capL_snoc]
      have : (cur ++ [c]).isEmpty = false := by cases cur <;> rfl
      rw [this]
      simp
theorem isPrefixOf_len {y l : List Nat} (h : y.isPrefixOf l = true) : y.length ≤ l.length := by
  rw [isPrefixOf_take, beq_iff_eq] at h
  have := congrArg List.length h
  rw [List.length_take] at this
  exact ax_min this
open Builtin Builtin.Str StrLaws in
theorem subAt_pre (x y : Str) (i : Nat) (h : i + y.length ≤ x.length) : subAt x y i = (cl y).isPrefixOf ((cl x).drop i) := by
  rw [subAt_eq, isPrefixOf_take, cl_len]
open Builtin Builtin.Str StrLaws in
theorem occ_run (x y : Str) (hy : 1 ≤ y.length) : ∀ (k i : Nat) (st : Array Nat × Nat), i + k = x.length + 1 → st.1.size ≤ i → 
    (forIn (List.range' i k) st (occBody x y x.length (x.length + 1))).run.fst.toList = st.1.toList ++ oc (cl y) ((cl x).drop i) (st.2 - i) i
  | 0, i, st, hi, _ => by
    have e : (cl x).drop i = [] := List.drop_of_length_le (by rw [cl_len]; exact ax1 hi)
    rw [e]
    simp [oc]
  | k + 1, i, st, hi, hs => by
    rw [List.range'_succ, List.forIn_cons]
    by_cases hlt : i < x.length
    · obtain ⟨c, r, e1⟩ : ∃ c r, (cl x).drop i = c :: r := ⟨_, _, List.drop_eq_getElem_cons (by rw [cl_len]; exact hlt)⟩
      have e2 : (cl x).drop (i + 1) = r := by rw [← List.drop_drop, e1]; rfl
      unfold occBody
      by_cases hf : st.2 ≤ i
      · have hz : st.2 - i = 0 := Nat.sub_eq_zero_of_le hf
        rw [hz, e1, oc]
        by_cases hp : (cl y).isPrefixOf (c :: r) = true
        · have hl := isPrefixOf_len hp
          rw [← e1, List.length_drop, cl_len, cl_len] at hl
          have hsub : subAt x y i = true := by rw [subAt_pre x y i (ax8 hl hlt), e1]; exact hp
          rw [if_pos ⟨⟨⟨ax9 hs hi, hf⟩, ax8 hl hlt⟩, hsub⟩, if_pos hp]
          have := occ_run x y hy k (i + 1) (st.1.push i, i + y.length) (ax2 hi) (by simpa using hs)
          rw [e2] at this
          refine this.trans ?_
          rw [Array.toList_push, List.append_assoc]
          rw [cl_len, ax3 i y.length]
          rfl
        · have hn : ¬ (((st.1.size < x.length + 1 ∧ st.2 ≤ i) ∧ i + y.length ≤ x.length) ∧ subAt x y i = true) := fun z => hp (by rw [← e1, ← subAt_pre x y i z.1.2]; exact z.2)
          rw [if_neg hn, if_neg hp]
          have := occ_run x y hy k (i + 1) (st.1, st.2) (ax2 hi) (Nat.le_succ_of_le hs)
          rw [e2, ax4 hf] at this
          exact this
      · obtain ⟨n, hn'⟩ := ax6 hf
        have hn : ¬ (((st.1.size < x.length + 1 ∧ st.2 ≤ i) ∧ i + y.length ≤ x.length) ∧ subAt x y i = true) := fun z => hf z.1.1.2
        rw [if_neg hn, hn', e1, oc]
        have := occ_run x y hy k (i + 1) (st.1, st.2) (ax2 hi) (Nat.le_succ_of_le hs)
        rw [e2, ax5 hn'] at this
        exact this
    · have hk : k = 0 := ax7 hi hlt
      subst hk
      have hn : ¬ (((st.1.size < x.length + 1 ∧ st.2 ≤ i) ∧ i + y.length ≤ x.length) ∧ subAt x y i = true) := fun z => hlt (Nat.lt_of_lt_of_le (Nat.lt_add_of_pos_right hy) z.1.2)
      unfold occBody
      rw [if_neg hn]
      have e : (cl x).drop i = [] := List.drop_of_length_le (by rw [cl_len]; exact Nat.not_lt.mp hlt)
      rw [e]
      simp [oc]
open Builtin Builtin.Str StrLaws in
theorem occ_oc (x y : Str) (hy : 1 ≤ y.length) : occurrences x y 0 x.length (x.length + 1) = oc (cl y) (cl x) 0 0 := by
  rw [occ_eq]
  have := occ_run x y hy (x.length + 1) 0 (#[], 0) (Nat.zero_add _) (Nat.zero_le _)
  simpa using this
open Builtin Builtin.Str StrLaws in
theorem parts_sp (x y : Str) (hy : 1 ≤ y.length) : ∀ (r : List Nat) (i n a : Nat), (cl x).drop i = r → i ≤ x.length → (n = 0 → a ≤ i) → (n ≠ 0 → a = i + n) → a ≤ x.length →
    (partsFrom x y.length a (oc (cl y) r n i)).map cl = sp (cl y) r n (((cl x).drop a).take (i - a))
  | [], i, n, a, hr, hi, h0, h1, ha => by
    have hil : i = x.length := by
      have := congrArg List.length hr
      rw [List.length_drop, cl_len] at this
      exact ax_end hi this
    simp only [oc, sp, partsFrom, List.map_cons, List.map_nil]
    rw [show cl (strSub x a x.length) = ((cl x).drop a).take (x.length - a) from strSub_toList x a x.length, hil]
  | c :: r, i, n + 1, a, hr, hi, h0, h1, ha => by
    have e2 : (cl x).drop (i + 1) = r := by rw [← List.drop_drop, hr]; rfl
    have hil : i + 1 ≤ x.length := by
      have := congrArg List.length hr
      rw [List.length_drop, cl_len] at this
      exact Nat.lt_of_sub_eq_succ this
    have ea : a = i + (n + 1) := h1 (Nat.succ_ne_zero n)
    rw [oc, sp]
    have := parts_sp x y hy r (i + 1) n a e2 hil (fun z => by subst z; exact Nat.le_of_eq ea) (fun _ => ea.trans (Nat.add_right_comm i n 1)) ha
    rw [this, show i + 1 - a = 0 from Nat.sub_eq_zero_of_le (ea ▸ Nat.add_le_add_left (Nat.succ_le_succ (Nat.zero_le n)) i), show i - a = 0 from Nat.sub_eq_zero_of_le (ea ▸ Nat.le_add_right i (n + 1))]
  | c :: r, i, 0, a, hr, hi, h0, h1, ha => by
    have e2 : (cl x).drop (i + 1) = r := by rw [← List.drop_drop, hr]; rfl
    have hil : i + 1 ≤ x.length := by
      have := congrArg List.length hr
      rw [List.length_drop, cl_len] at this
      exact Nat.lt_of_sub_eq_succ this
    have ea := h0 rfl
    rw [oc, sp]
    by_cases hp : (cl y).isPrefixOf (c :: r) = true
    · rw [if_pos hp, if_pos hp, partsFrom, List.map_cons]
      have hl := isPrefixOf_len hp
      rw [← hr, List.length_drop, cl_len, cl_len] at hl
      have := parts_sp x y hy r (i + 1) ((cl y).length - 1) (i + y.length) e2 hil (fun z => Nat.add_le_add_left (Nat.sub_eq_zero_iff_le.mp (cl_len y ▸ z)) i) (fun _ => by rw [cl_len, Nat.add_assoc, Nat.add_sub_cancel' hy]) (ax8 hl hil)
      rw [this, show i + 1 - (i + y.length) = 0 from Nat.sub_eq_zero_of_le (Nat.add_le_add_left hy i), List.take_zero]
      congr 1
      exact strSub_toList x a i
    · rw [if_neg hp, if_neg hp]
      have := parts_sp x y hy r (i + 1) 0 a e2 hil (fun _ => Nat.le_succ_of_le ea) (fun z => absurd rfl z) ha
      rw [this]
      congr 1
      rw [show i + 1 - a = (i - a) + 1 from Nat.succ_sub ea, List.take_add_one, List.getElem?_drop, show a + (i - a) = i from Nat.add_sub_cancel' ea]
      have : (cl x)[i]? = some c := by
        have := congrArg (·[0]?) hr
        simpa using this
      rw [this]; rfl
open Builtin Builtin.Str StrLaws in
theorem split_sp (x y : Str) (hy : 1 ≤ y.length) (hk : Builtin.Str.strKind y = 1) : (Txt.split x y).map cl = sp (cl y) (cl x) 0 [] := by
  have key : (partsFrom x y.length 0 (oc (cl y) (cl x) 0 0)).map cl = sp (cl y) (cl x) 0 [] := by
    have := parts_sp x y hy (cl x) 0 0 0 rfl (Nat.zero_le _) (fun _ => Nat.le_refl 0) (fun z => absurd rfl z) (Nat.zero_le _)
    simpa using this
  have hkx : 1 ≤ Builtin.Str.strKind x := by unfold Builtin.Str.strKind; split <;> (try split) <;> decide
  have none_ : (occurrences x y 0 x.length (x.length + 1)) = [] → [x].map cl = sp (cl y) (cl x) 0 [] := fun e => by
    rw [← key, ← occ_oc x y hy, e, partsFrom, sub_whole]
  unfold Txt.split
  split
  · rename_i h
    refine none_ ?_
    have hlt : x.length < y.length := by
      simp only [Bool.or_eq_true, decide_eq_true_eq] at h
      exact h.resolve_right (hk ▸ Nat.not_lt.mpr hkx)
    rw [occ_oc x y hy]
    have : ∀ (r : List Nat) (i : Nat), r.length < (cl y).length → oc (cl y) r 0 i = [] := by
      intro r
      induction r with
      | nil => intro i _; rfl
      | cons c r ih =>
        intro i hr
        rw [oc, if_neg (fun z => Nat.not_lt.mpr (isPrefixOf_len z) hr)]
        exact ih _ (Nat.lt_of_succ_lt hr)
    exact this _ _ (by rw [cl_len, cl_len]; exact hlt)
  · split
    · rename_i h
      exact none_ (List.isEmpty_iff.mp h)
    · rw [partsBetween_eq, occ_oc x y hy]
      exact key
end Mine
end

section
open PySem PySem.W PyProof.Rows
namespace Mine
theorem join_cl (y : Str) : ∀ L : List Str, cl (Txt.join y L) = joinL (cl y) (L.map cl) := by
  intro L
  have e : Txt.join y L = Str.join y L := beq_iff_eq.mp (join_closes rfl)
  rw [e]
  induction L with
  | nil => rfl
  | cons p L ih =>
    cases L with
    | nil => rfl
    | cons q L =>
      have ih := ih (beq_iff_eq.mp (join_closes rfl))
      rw [Str.join, cl_app, cl_app, ih]
      · rfl
      · nofun
theorem title_al : ∀ c ∈ al, Unicode.titleOf c = [upc c] := by decide +kernel
theorem lower_al : ∀ c ∈ al, Unicode.lowerOf c = [loc c] := by decide +kernel
theorem sig_al : ∀ c ∈ al, (c == 0x3A3) = false := by decide
theorem lowerAt_good {l : Array Nat} {i c : Nat} (h : l[i]? = some c) (hc : c ∈ al) : Unicode.lowerAt l i = [loc c] := by
  unfold Unicode.lowerAt
  rw [h]
  simp only [sig_al c hc, Bool.false_and, Bool.false_eq_true, if_false]
  exact lower_al c hc
theorem flat_one (l : List Nat) (g : Nat → Nat → Nat) : ((l.mapIdx fun i c => [g i c])).flatten = l.mapIdx g := by
  induction l generalizing g with
  | nil => rfl
  | cons a l ih =>
    rw [List.mapIdx_cons, List.mapIdx_cons, List.flatten_cons, ih fun i => g (i + 1)]
    rfl
theorem placed_one {x : Str} {f : Nat → Nat → List Nat} {g : Nat → Nat → Nat} (h : ∀ i c, x.cps[i]? = some c → f i c = [g i c]) : (placed x f).toList = (cl x).mapIdx g := by
  unfold placed
  rw [← flat_one]
  have e : x.cps.mapIdx (fun i c => (f i c).toArray) = x.cps.mapIdx (fun i c => [g i c].toArray) := by
    refine Array.ext (by simp) fun i h1 h2 => ?_
    have h3 : i < x.cps.size := by simpa using h1
    simp [h i x.cps[i] (Array.getElem?_eq_getElem h3)]
  have k : ∀ (l : List Nat) (g : Nat → Nat → Nat), (List.map Array.toList (List.mapIdx (fun i a => #[g i a]) l)) = l.mapIdx fun i c => [g i c] := by
    intro l
    induction l with
    | nil => intro g; rfl
    | cons a l ih => intro g; rw [List.mapIdx_cons, List.mapIdx_cons, List.map_cons, ih fun i => g (i + 1)]
  rw [e, Array.toList_flatten, Array.toList_mapIdx]
  exact congrArg List.flatten (k _ g)
theorem cap_cl {x : Str} (g : Good x) : cl (Txt.capitalize x) = capL (cl x) := by
  unfold Txt.capitalize
  by_cases h0 : x.length = 0
  · have e : cl x = [] := List.eq_nil_of_length_eq_zero (by rw [cl_len]; exact h0)
    rw [if_pos (by rw [h0]; rfl), e]; rfl
  · rw [if_neg (by simpa using h0)]
    have := placed_one (x := x) (f := fun i c => if i == 0 then Unicode.titleOf c else Unicode.lowerAt x.cps i) (g := fun i c => if i = 0 then upc c else loc c) (fun i c e => by
      have hc : c ∈ al := g c (by
        have h3 : i < x.cps.size := by
          rcases Nat.lt_or_ge i x.cps.size with z | z
          · exact z
          · rw [Array.getElem?_eq_none z] at e; cases e
        rw [Array.getElem?_eq_getElem h3] at e
        cases e
        simp [cl])
      by_cases hi : i = 0
      · simp [hi, title_al c hc]
      · simp [hi, lowerAt_good e hc])
    show (placed x _).toList = _
    rw [this]
    cases cl x with
    | nil => rfl
    | cons c l =>
      have k : ∀ (l : List Nat) (n : Nat), (l.mapIdx fun i c => if i + (n + 1) = 0 then upc c else loc c) = l.map loc := by
        intro l
        induction l with
        | nil => intro n; rfl
        | cons a l ih =>
          intro n
          rw [List.mapIdx_cons, List.map_cons]
          have : (l.mapIdx fun i c => if i + 1 + (n + 1) = 0 then upc c else loc c) = l.map loc := by
            have := ih (n + 1)
            rw [← this]
            refine congrArg (fun f => List.mapIdx f l) ?_
            funext i c
            rw [show i + 1 + (n + 1) = i + (n + 1 + 1) by omega]
          rw [this]
          simp
      rw [List.mapIdx_cons, if_pos rfl, capL]
      exact congrArg _ (k l 0)
theorem gr_cap {x y : Str} (g : Good x) (hy : 1 ≤ y.length) (hk : Builtin.Str.strKind y = 1) : greatS x y = capS x y := by
  have hg : ∀ p ∈ Txt.split x y, Good p := by
    intro p hp c hc
    have e : Str.join y (Txt.split x y) = x := StrLaws.join_split x y
    have : ∀ L : List Str, p ∈ L → c ∈ cl (Str.join y L) := by
      intro L
      induction L with
      | nil => intro h; cases h
      | cons q L ih =>
        intro h
        cases L with
        | nil =>
          rcases List.mem_cons.mp h with rfl | h
          · exact hc
          · cases h
        | cons r L =>
          rw [Str.join, cl_app, cl_app]
          · rcases List.mem_cons.mp h with rfl | h
            · exact List.mem_append_left _ (List.mem_append_left _ hc)
            · exact List.mem_append_right _ (ih h)
          · nofun
    have := this _ hp
    rw [e] at this
    exact g c this
  refine cl_ext ?_
  unfold greatS capS
  rw [cl_mk, join_cl, List.map_map]
  have e : (Txt.split x y).map (cl ∘ Txt.capitalize) = ((Txt.split x y).map cl).map capL := by
    rw [List.map_map]
    exact List.map_congr_left fun p hp => cap_cl (hg p hp)
  rw [e, split_sp x y hy hk, join_gr _ _ _ _ fun z => absurd rfl z]
  rfl
end Mine
end

section
open PySem PySem.W PyProof.Rows
namespace Mine
def wst (st : List (List Nat) × List Nat) (c : Nat) : List (List Nat) × List Nat := if isW c then (if st.2 = [] then st else (st.1 ++ [st.2], [])) else (st.1, st.2 ++ [c])
def wfin (st : List (List Nat) × List Nat) : List (List Nat) := if st.2 = [] then st.1 else st.1 ++ [st.2]
def wsc (l : List Nat) : List (List Nat) × List Nat := l.foldl wst ([], [])
def wd (l : List Nat) : List (List Nat) := wfin (wsc l)
theorem space_al : ∀ c ∈ al, Unicode.isSpace c = isW c := by decide +kernel
theorem scan_wsc (l : List Nat) (h : ∀ c ∈ l, c ∈ al) : ∀ (q : KWd.St) (st : List (List Nat) × List Nat), q.1.map cl = st.1 → cl q.2 = st.2 → ((l.foldl KWd.step q).1.map cl = (l.foldl wst st).1 ∧ cl (l.foldl KWd.step q).2 = (l.foldl wst st).2) := by
  induction l with
  | nil => intro q st h1 h2; exact ⟨h1, h2⟩
  | cons c l ih =>
    intro q st h1 h2
    have hl : q.2.length = 0 ↔ st.2 = [] := by rw [← h2, ← cl_len]; exact List.length_eq_zero_iff
    refine ih (fun d hd => h d (List.mem_cons_of_mem _ hd)) _ _ ?_ ?_
    · unfold KWd.step wst
      rw [space_al c (h c List.mem_cons_self)]
      by_cases hw : isW c = true
      · rw [if_pos hw, if_pos hw]
        by_cases h0 : q.2.length = 0
        · rw [if_pos h0, if_pos (hl.mp h0)]; exact h1
        · rw [if_neg h0, if_neg (fun z => h0 (hl.mpr z))]
          rw [List.map_append, h1, List.map_singleton, h2]
      · rw [if_neg hw, if_neg hw]; exact h1
    · unfold KWd.step wst
      rw [space_al c (h c List.mem_cons_self)]
      by_cases hw : isW c = true
      · rw [if_pos hw, if_pos hw]
        by_cases h0 : q.2.length = 0
        · rw [if_pos h0, if_pos (hl.mp h0)]; exact h2
        · rw [if_neg h0, if_neg (fun z => h0 (hl.mpr z))]; rfl
      · rw [if_neg hw, if_neg hw]
        show cl (q.2 ++ ⟨#[c]⟩) = st.2 ++ [c]
        rw [cl_app, h2]
theorem words_wd {x : Str} (g : Good x) : (Txt.words x).map cl = wd (cl x) := by
  rw [KWd.words_scan]
  obtain ⟨h1, h2⟩ := scan_wsc (cl x) g ([], Str.empty) ([], []) rfl rfl
  have e : KWd.scan x = (cl x).foldl KWd.step ([], Str.empty) := rfl
  unfold KWd.fin wd wfin wsc
  rw [e]
  have hl : ((cl x).foldl KWd.step ([], Str.empty)).2.length = 0 ↔ ((cl x).foldl wst ([], [])).2 = [] := by rw [← h2, ← cl_len]; exact List.length_eq_zero_iff
  by_cases h0 : ((cl x).foldl KWd.step ([], Str.empty)).2.length = 0
  · rw [if_pos h0, if_pos (hl.mp h0)]; exact h1
  · rw [if_neg h0, if_neg (fun z => h0 (hl.mpr z)), List.map_append, h1, List.map_singleton, h2]
def Wok (p : List Nat) : Prop := p ≠ [] ∧ ∀ c ∈ p, isW c = false ∧ c ∈ al
theorem wst_ok {st : List (List Nat) × List Nat} {c : Nat} (hc : c ∈ al) (h1 : ∀ p ∈ st.1, Wok p) (h2 : ∀ d ∈ st.2, isW d = false ∧ d ∈ al) : (∀ p ∈ (wst st c).1, Wok p) ∧ ∀ d ∈ (wst st c).2, isW d = false ∧ d ∈ al := by
  unfold wst
  by_cases hw : isW c = true
  · rw [if_pos hw]
    by_cases h0 : st.2 = []
    · rw [if_pos h0]; exact ⟨h1, h2⟩
    · rw [if_neg h0]
      refine ⟨fun p hp => ?_, fun d hd => nomatch hd⟩
      rcases List.mem_append.mp hp with q | q
      · exact h1 p q
      · rw [List.mem_singleton.mp q]; exact ⟨h0, h2⟩
  · rw [if_neg hw]
    refine ⟨h1, fun d hd => ?_⟩
    rcases List.mem_append.mp hd with q | q
    · exact h2 d q
    · rw [List.mem_singleton.mp q]; exact ⟨by simpa using hw, hc⟩
theorem wsc_ok : ∀ (l : List Nat) (st : List (List Nat) × List Nat), (∀ c ∈ l, c ∈ al) → (∀ p ∈ st.1, Wok p) → (∀ d ∈ st.2, isW d = false ∧ d ∈ al) → (∀ p ∈ (l.foldl wst st).1, Wok p) ∧ ∀ d ∈ (l.foldl wst st).2, isW d = false ∧ d ∈ al
  | [], st, _, h1, h2 => ⟨h1, h2⟩
  | c :: l, st, h, h1, h2 => by
    have := wst_ok (h c List.mem_cons_self) h1 h2
    exact wsc_ok l _ (fun d hd => h d (List.mem_cons_of_mem _ hd)) this.1 this.2
theorem wd_ok {l : List Nat} (h : ∀ c ∈ l, c ∈ al) : ∀ p ∈ wd l, Wok p := by
  obtain ⟨h1, h2⟩ := wsc_ok l ([], []) h (fun p hp => nomatch hp) (fun p hp => nomatch hp)
  intro p hp
  unfold wd wfin at hp
  split at hp
  · exact h1 p hp
  · rename_i h0
    rcases List.mem_append.mp hp with q | q
    · exact h1 p q
    · rw [List.mem_singleton.mp q]; exact ⟨h0, h2⟩
def gap (ws : List (List Nat)) : List Nat := (ws.map (· ++ [32])).flatten
theorem gap_snoc (ws : List (List Nat)) (p : List Nat) : gap (ws ++ [p]) = gap ws ++ (p ++ [32]) := by simp [gap]
theorem gap_last : ∀ (ws : List (List Nat)), gap ws = [] ∨ (gap ws).getLast? = some 32 := by
  intro ws
  rcases List.eq_nil_or_concat ws with rfl | ⟨ws', p, rfl⟩
  · exact .inl rfl
  · right
    rw [List.concat_eq_append, gap_snoc]
    simp
theorem sgn_wst {st : List (List Nat) × List Nat} {c : Nat} (h2 : ∀ d ∈ st.2, isW d = false ∧ d ∈ al) : sgn (gap st.1 ++ st.2) c = gap (wst st c).1 ++ (wst st c).2 := by
  unfold sgn wst
  by_cases hw : isW c = true
  · rw [if_pos hw, if_pos hw]
    by_cases h0 : st.2 = []
    · rw [if_pos h0, h0, List.append_nil, if_pos (gap_last st.1)]
    · rw [if_neg h0, gap_snoc, List.append_nil]
      have hn : ¬ (gap st.1 ++ st.2 = [] ∨ (gap st.1 ++ st.2).getLast? = some 32) := by
        intro z
        rcases z with z | z
        · exact h0 (List.append_eq_nil_iff.mp z).2
        · rw [List.getLast?_append] at z
          have z : st.2.getLast? = some 32 := by
            cases e : st.2.getLast? with
            | none => exact absurd (List.getLast?_eq_none_iff.mp e) h0
            | some v => rw [e] at z; simpa using z
          have hm : 32 ∈ st.2 := List.mem_of_getLast? z
          have := (h2 32 hm).1
          revert this; decide
      rw [if_neg hn, List.append_assoc]
  · rw [if_neg hw, if_neg hw, List.append_assoc]
theorem sqz_wsc : ∀ (l : List Nat) (st : List (List Nat) × List Nat), (∀ c ∈ l, c ∈ al) → (∀ p ∈ st.1, Wok p) → (∀ d ∈ st.2, isW d = false ∧ d ∈ al) → l.foldl sgn (gap st.1 ++ st.2) = gap (l.foldl wst st).1 ++ (l.foldl wst st).2
  | [], st, _, _, _ => rfl
  | c :: l, st, h, h1, h2 => by
    have k := wst_ok (h c List.mem_cons_self) h1 h2
    rw [List.foldl_cons, List.foldl_cons, sgn_wst h2]
    exact sqz_wsc l _ (fun d hd => h d (List.mem_cons_of_mem _ hd)) k.1 k.2
theorem sqz_wd {l : List Nat} (h : ∀ c ∈ l, c ∈ al) : sqz (l ++ [32]) = gap (wd l) := by
  have k := sqz_wsc l ([], []) h (fun p hp => nomatch hp) (fun p hp => nomatch hp)
  obtain ⟨h1, h2⟩ := wsc_ok l ([], []) h (fun p hp => nomatch hp) (fun p hp => nomatch hp)
  unfold sqz
  rw [List.foldl_append]
  have e2 : l.foldl sgn [] = _ := k
  rw [e2]
  show sgn _ 32 = _
  rw [sgn_wst h2]
  unfold wd wsc
  generalize l.foldl wst ([], []) = q
  have hw : isW 32 = true := by decide
  unfold wst wfin
  rw [if_pos hw]
  by_cases h0 : q.2 = []
  · rw [if_pos h0, if_pos h0, h0, List.append_nil]
  · rw [if_neg h0, if_neg h0, List.append_nil]
theorem gap_drop : ∀ (ws : List (List Nat)), (gap ws).dropLast = joinL [32] ws
  | [] => rfl
  | [p] => by simp [gap, joinL]
  | p :: q :: r => by
    have ih := gap_drop (q :: r)
    have e : gap (p :: q :: r) = (p ++ [32]) ++ gap (q :: r) := by simp [gap]
    rw [e, List.dropLast_append_of_ne_nil (by simp [gap]), ih]
    rfl
theorem sp_run {y : List Nat} : ∀ (p r cur : List Nat), (∀ c ∈ p, c ≠ 32) → sp [32] (p ++ r) 0 cur = sp [32] r 0 (cur ++ p)
  | [], r, cur, _ => by simp
  | c :: p, r, cur, h => by
    have hc : c ≠ 32 := h c List.mem_cons_self
    rw [List.cons_append, sp, if_neg (by simp [List.isPrefixOf, Ne.symm hc]), sp_run (y := y) p r (cur ++ [c]) fun d hd => h d (List.mem_cons_of_mem _ hd)]
    simp
theorem sp_join : ∀ (ws : List (List Nat)), ws ≠ [] → (∀ p ∈ ws, ∀ c ∈ p, c ≠ 32) → sp [32] (joinL [32] ws) 0 [] = ws
  | [], h, _ => absurd rfl h
  | [p], _, h => by
    have := sp_run (y := []) p [] [] (h p List.mem_cons_self)
    rw [List.append_nil, List.nil_append] at this
    rw [joinL, this, sp]
  | p :: q :: r, _, h => by
    have ih := sp_join (q :: r) (by simp) fun p' hp' => h p' (List.mem_cons_of_mem _ hp')
    rw [joinL, List.append_assoc, sp_run (y := []) p _ [] (h p List.mem_cons_self), List.nil_append, List.singleton_append, sp, if_pos (by simp [List.isPrefixOf])]
    show p :: sp [32] _ 0 [] = _
    rw [ih]
theorem words_cap {x : Str} (g : Good x) : wordsS x = capN x := by
  refine cl_ext ?_
  have hok := wd_ok (l := cl x) g
  have e1 : cl (capN x) = joinL [32] ((wd (cl x)).map capL) := by
    unfold capN
    rw [join_cl, List.map_map, sp_cl]
    have : (Txt.words x).map (cl ∘ Txt.capitalize) = ((Txt.words x).map cl).map capL := by
      rw [List.map_map]
      refine List.map_congr_left fun p hp => cap_cl fun c hc => ?_
      have : cl p ∈ wd (cl x) := by rw [← words_wd g]; exact List.mem_map_of_mem hp
      exact ((hok _ this).2 c hc).2
    rw [this, words_wd g]
  rw [e1]
  unfold wordsS greatS
  rw [sp_cl, cl_mk, cl_mk, sqz_wd g, gap_drop]
  generalize wd (cl x) = ws at hok
  by_cases h0 : ws = []
  · rw [h0]; rfl
  · have hn : ∀ p ∈ ws, ∀ c ∈ p, c ≠ 32 := fun p hp c hc z => by
      have := ((hok p hp).2 c hc).1
      rw [z] at this
      revert this; decide
    have := join_gr [32] (joinL [32] ws) 0 [] fun z => absurd rfl z
    rw [sp_join ws h0 hn] at this
    rw [this]; rfl
end Mine
end

section
open PySem PySem.W PyProof.Rows
namespace Mine
theorem joinL_nil : ∀ L : List (List Nat), joinL [] L = L.flatten
  | [] => rfl
  | [p] => by simp [joinL]
  | p :: q :: r => by rw [joinL, joinL_nil (q :: r)]; simp
theorem cat_cl (ps : List (Str × Str)) : cl (cat ps) = (ps.map fun p => cl p.1 ++ cl p.2).flatten := by
  unfold cat
  have e : cl (Str.ofString "") = [] := by rw [show Str.ofString "" = ⟨#[]⟩ from by decide +kernel]
  rw [join_cl, e, joinL_nil, List.map_map]
  congr 1
  exact List.map_congr_left fun p _ => cl_app _ _
theorem cat_len (ps : List (Str × Str)) : (cat ps).length = lens ps := by
  rw [← cl_len, cat_cl]
  unfold lens
  induction ps with
  | nil => rfl
  | cons p ps ih => simp only [List.map_cons, List.flatten_cons, List.length_append, List.sum_cons, ih, cl_len]
theorem cat_app (ps qs : List (Str × Str)) : cat (ps ++ qs) = cat ps ++ cat qs := cl_ext (by rw [cl_app, cat_cl, cat_cl, cat_cl]; simp)
theorem wst_pre (ws : List (List Nat)) : ∀ (l : List Nat) (st : List (List Nat) × List Nat), l.foldl wst (ws ++ st.1, st.2) = (ws ++ (l.foldl wst st).1, (l.foldl wst st).2)
  | [], st => rfl
  | c :: l, st => by
    rw [List.foldl_cons, List.foldl_cons]
    have e : wst (ws ++ st.1, st.2) c = (ws ++ (wst st c).1, (wst st c).2) := by
      unfold wst
      by_cases hw : isW c = true
      · simp only [hw, if_true]
        by_cases h0 : st.2 = []
        · simp [h0]
        · simp [h0]
      · simp [hw]
    rw [e, wst_pre ws l]
theorem wd_from (ws : List (List Nat)) (l : List Nat) : wfin (l.foldl wst (ws, [])) = ws ++ wd l := by
  have := wst_pre ws l ([], [])
  rw [List.append_nil] at this
  rw [this]
  unfold wd wfin wsc
  split
  · rfl
  · simp
theorem wsc_snoc (l : List Nat) (c : Nat) : wsc (l ++ [c]) = wst (wsc l) c := by unfold wsc; rw [List.foldl_append]; rfl
theorem wst_white {st : List (List Nat) × List Nat} {c : Nat} (hc : isW c = true) : wst st c = (wfin st, []) := by
  unfold wst wfin
  rw [if_pos hc]
  by_cases h0 : st.2 = []
  · rw [if_pos h0, if_pos h0]; exact Prod.ext rfl h0
  · rw [if_neg h0, if_neg h0]
def endsW (l : List Nat) : Prop := ∀ c, l.getLast? = some c → isW c = true
def begsW (l : List Nat) : Prop := ∀ c, l.head? = some c → isW c = true
theorem wd_cut (l r : List Nat) (h : endsW l ∨ begsW r) : wd (l ++ r) = wd l ++ wd r := by
  have e : wd (l ++ r) = wfin (r.foldl wst (wsc l)) := by unfold wd wsc; rw [List.foldl_append]
  rw [e]
  rcases h with h | h
  · have e2 : wsc l = (wd l, []) := by
      rcases List.eq_nil_or_concat l with rfl | ⟨l', c, rfl⟩
      · rfl
      · rw [List.concat_eq_append] at h ⊢
        have hc := h c (by simp)
        unfold wd
        rw [wsc_snoc, wst_white hc]
        rfl
    rw [e2, wd_from]
  · cases r with
    | nil =>
      show wd l = wd l ++ []
      rw [List.append_nil]
    | cons c r =>
      have hc := h c rfl
      rw [List.foldl_cons, wst_white hc, wd_from]
      congr 1
      show wd r = wfin ((c :: r).foldl wst ([], []))
      rw [List.foldl_cons, wst_white hc]
      rfl
theorem wd_nil {l : List Nat} : wd l = [] ↔ ∀ c ∈ l, isW c = true := by
  constructor
  · intro h
    induction l with
    | nil => intro c hc; cases hc
    | cons c l ih =>
      by_cases hw : isW c = true
      · have e : wd ([c] ++ l) = wd [c] ++ wd l := wd_cut [c] l (.inl fun d hd => by simp at hd; rw [← hd]; exact hw)
        rw [List.singleton_append, h] at e
        have e2 := (List.append_eq_nil_iff.mp e.symm).2
        intro d hd
        rcases List.mem_cons.mp hd with rfl | hd
        · exact hw
        · exact ih e2 d hd
      · exfalso
        have k : ∀ (l : List Nat) (st : List (List Nat) × List Nat), (st.1 ≠ [] ∨ st.2 ≠ []) → wfin (l.foldl wst st) ≠ [] := by
          intro l
          induction l with
          | nil =>
            intro st hs
            unfold wfin
            show (if st.2 = [] then st.1 else st.1 ++ [st.2]) ≠ []
            split
            · rename_i h0
              rcases hs with hs | hs
              · exact hs
              · exact absurd h0 hs
            · simp
          | cons d l ih =>
            intro st hs
            rw [List.foldl_cons]
            refine ih _ ?_
            unfold wst
            split
            · split
              · rename_i h0
                rcases hs with hs | hs
                · exact .inl hs
                · exact absurd h0 hs
              · exact .inl (by simp)
            · exact .inr (by simp)
        refine k l (wst ([], []) c) ?_ h
        unfold wst
        rw [if_neg hw]
        exact .inr (by simp)
  · intro h
    induction l with
    | nil => rfl
    | cons c l ih =>
      have e : wd ([c] ++ l) = wd [c] ++ wd l := wd_cut [c] l (.inl fun d hd => by simp at hd; rw [← hd]; exact h c List.mem_cons_self)
      rw [List.singleton_append, ih fun d hd => h d (List.mem_cons_of_mem _ hd)] at e
      rw [e]
      have : wd [c] = [] := by
        show wfin (wst ([], []) c) = []
        rw [wst_white (h c List.mem_cons_self)]; rfl
      rw [this]; rfl
theorem capN_cl {x : Str} (g : Good x) : cl (capN x) = joinL [32] ((wd (cl x)).map capL) := by
  have hok := wd_ok (l := cl x) g
  unfold capN
  rw [join_cl, List.map_map, sp_cl]
  have : (Txt.words x).map (cl ∘ Txt.capitalize) = ((Txt.words x).map cl).map capL := by
    rw [List.map_map]
    refine List.map_congr_left fun p hp => cap_cl fun c hc => ?_
    have : cl p ∈ wd (cl x) := by rw [← words_wd g]; exact List.mem_map_of_mem hp
    exact ((hok _ this).2 c hc).2
  rw [this, words_wd g]
theorem capL_ne {p : List Nat} (h : p ≠ []) : capL p ≠ [] := by cases p with | nil => exact absurd rfl h | cons c l => simp [capL]
theorem joinL_ne {ws : List (List Nat)} (h : ws ≠ []) (hp : ∀ p ∈ ws, p ≠ []) : joinL [32] ws ≠ [] := by
  cases ws with
  | nil => exact absurd rfl h
  | cons p r =>
    have := hp p List.mem_cons_self
    cases r with
    | nil => exact this
    | cons q r =>
      rw [joinL]
      intro z
      simp at z
theorem empty_cl (x : Str) : (x == Str.ofString "") = (cl x).isEmpty := by
  have e : Str.ofString "" = ⟨#[]⟩ := by decide +kernel
  rw [e, Bool.eq_iff_iff, beq_iff_eq, List.isEmpty_iff]
  exact ⟨fun h => by rw [h], fun h => cl_ext (by rw [h])⟩
theorem capN_empty {x : Str} (g : Good x) : (capN x == Str.ofString "") = decide (∀ c ∈ cl x, isW c = true) := by
  rw [empty_cl, capN_cl g, Bool.eq_iff_iff, List.isEmpty_iff, decide_eq_true_eq, ← wd_nil]
  constructor
  · intro h
    cases e : wd (cl x) with
    | nil => rfl
    | cons p r =>
      exfalso
      rw [e] at h
      refine joinL_ne (by simp) (fun q hq => ?_) h
      obtain ⟨q', hq', rfl⟩ := List.mem_map.mp hq
      exact capL_ne (wd_ok g q' (by rw [e]; exact hq')).1
  · intro h; rw [h]; rfl
theorem only_eq {k : Int} {ps : List (Str × Str)} (g : Good (cat ps)) : onlyB k ps = (k == 0 && decide (∀ c ∈ cl (cat ps), isW c = true)) := by
  unfold onlyB
  congr 1
  rw [Bool.eq_iff_iff, Bool.or_eq_true, decide_eq_true_eq, beq_iff_eq, ← cat_len, ← cl_len]
  unfold Txt.isspace
  constructor
  · rintro (h | h)
    · intro c hc
      rw [List.length_eq_zero_iff.mp h] at hc; cases hc
    · intro c hc
      have := (Bool.and_eq_true_iff.mp h).2
      rw [Array.all_eq_true_iff_forall_mem] at this
      have := this c (by simpa [cl] using hc)
      rw [← space_al c (g c hc)]; exact this
  · intro h
    by_cases h0 : (cl (cat ps)).length = 0
    · exact .inl h0
    · right
      rw [Bool.and_eq_true_iff]
      refine ⟨by rw [cl_len] at h0; simp; omega, ?_⟩
      rw [Array.all_eq_true_iff_forall_mem]
      intro c hc
      have hc' : c ∈ cl (cat ps) := by simpa [cl] using hc
      rw [space_al c (g c hc')]; exact h c hc'
theorem only_cap {k : Int} {ps : List (Str × Str)} (g : Good (cat ps)) : onlyB k ps = (k == 0 && capN (cat ps) == Str.ofString "") := by
  rw [only_eq g, capN_empty g]
end Mine
end

section
open PySem PySem.W PyProof.Rows
namespace Mine
def stt (m : Nat) (l : List Nat) (f : Bool) : Bool := match l.getLast? with
  | none => f
  | some c => c == m
theorem pre_one (m c : Nat) (l : List Nat) : [m].isPrefixOf (c :: l) = (m == c) := by simp [List.isPrefixOf]
theorem gr_one (m c : Nat) (l : List Nat) (f : Bool) : gr [m] (c :: l) 0 f = (if c = m then [m] else [if f then upc c else loc c]) ++ gr [m] l 0 (c == m) := by
  rw [gr, pre_one]
  by_cases h : c = m
  · subst h; simp
  · rw [if_neg (by simpa using Ne.symm h), if_neg h]
    have : (c == m) = false := by simpa using h
    rw [this]; rfl
theorem gr_app (m : Nat) : ∀ (l r : List Nat) (f : Bool), gr [m] (l ++ r) 0 f = gr [m] l 0 f ++ gr [m] r 0 (stt m l f)
  | [], r, f => by simp [gr, stt]
  | c :: l, r, f => by
    rw [List.cons_append, gr_one, gr_one, gr_app m l r, List.append_assoc]
    congr 3
    unfold stt
    cases l with
    | nil => rfl
    | cons d l =>
      rw [List.getLast?_cons_cons]
      cases e : (d :: l).getLast? with
      | none => simp at e
      | some v => rfl
theorem mk_kind : ∀ c ∈ al, Builtin.Str.strKind ⟨#[c]⟩ = 1 := by decide +kernel
theorem cap_gr {x : Str} {m : Nat} (g : Good x) (hm : m ∈ al) : cl (capS x ⟨#[m]⟩) = gr [m] (cl x) 0 true := by
  rw [← gr_cap (y := ⟨#[m]⟩) g (by show 1 ≤ 1; exact Nat.le_refl 1) (mk_kind m hm)]
  unfold greatS
  rw [cl_mk]
theorem cap_cut1 {x y : Str} {m : Nat} (gx : Good x) (gy : Good y) (hm : m ∈ al) (h : stt m (cl x) true = true) : capS (x ++ y) ⟨#[m]⟩ = capS x ⟨#[m]⟩ ++ capS y ⟨#[m]⟩ := by
  refine cl_ext ?_
  rw [cl_app, cap_gr (good_app gx gy) hm, cap_gr gx hm, cap_gr gy hm, cl_app, gr_app, h]
theorem dot_cl : cl (Str.ofString ".") = [46] := by rw [show Str.ofString "." = ⟨#[46]⟩ from by decide +kernel]
theorem good_dot : Good (Str.ofString ".") := by
  rw [show Str.ofString "." = ⟨#[46]⟩ from by decide +kernel]
  exact good_one (by decide)
theorem slice_from1 (x : Str) : cl (Txt.slice x (some 1) none) = (cl x).drop 1 := by
  by_cases h : 1 ≤ x.length
  · rw [slice_from_eq (i := 1) (b := x.length) (by decide) (Int.ofNat_le.mpr h) rfl, cl_mk]
    exact List.take_of_length_le (by rw [List.length_drop, cl_len]; exact ax_sub (by decide) (Int.le_refl _))
  · rw [slice_beyond (i := 1) (Int.ofNat_le.mpr (Nat.le_of_not_le h))]
    rw [List.drop_of_length_le (by rw [cl_len]; exact Nat.le_of_not_le h)]
    rfl
theorem cap_cut2 {x y : Str} {m : Nat} (gx : Good x) (gy : Good y) (hm : m ∈ al) (h46 : m ≠ 46) (h : stt m (cl x) true = false) : capS (x ++ y) ⟨#[m]⟩ = capS x ⟨#[m]⟩ ++ Txt.slice (capS (Str.ofString "." ++ y) ⟨#[m]⟩) (some 1) none := by
  refine cl_ext ?_
  rw [cl_app, slice_from1, cap_gr (good_app gx gy) hm, cap_gr gx hm, cap_gr (good_app good_dot gy) hm, cl_app, cl_app, gr_app, h, dot_cl]
  congr 1
  show _ = (gr [m] (46 :: cl y) 0 true).drop 1
  rw [gr_one, if_neg (Ne.symm h46)]
  have : ((46 : Nat) == m) = false := by simpa using Ne.symm h46
  rw [this]; rfl
theorem item_back {x : Str} {l : List Nat} {c : Nat} (e : cl x = l ++ [c]) : Txt.item x (-1) = ⟨#[c]⟩ := by
  have hlen : x.length = l.length + 1 := by rw [← cl_len, e]; simp
  unfold Txt.item Txt.charAt
  have e1 : seqIndex? (-1) x.length = some (x.length - 1) := by rw [hlen]; exact seq_back l.length
  rw [e1]
  have : x.cps[x.length - 1]? = some c := by
    have : (cl x)[x.length - 1]? = some c := by rw [e, hlen]; simp
    simpa [cl] using this
  simp [this]
theorem stt_of {x : Str} {m : Nat} (h : (x == Str.ofString "") = true ∨ (Txt.item x (-1) == ⟨#[m]⟩) = true ∧ (x == Str.ofString "") = false) : stt m (cl x) true = true := by
  rcases h with h | ⟨h, h0⟩
  · rw [empty_cl, List.isEmpty_iff] at h
    rw [h]; rfl
  · rw [empty_cl] at h0
    rcases List.eq_nil_or_concat (cl x) with e | ⟨l, c, e⟩
    · rw [e] at h0; cases h0
    · rw [List.concat_eq_append] at e
      rw [item_back e, beq_iff_eq] at h
      have hc : c = m := by simpa using h
      unfold stt
      rw [e]
      simp [hc]
theorem stt_not {x : Str} {m : Nat} (h : (Txt.item x (-1) == ⟨#[m]⟩) = false) (h0 : (x == Str.ofString "") = false) : stt m (cl x) true = false := by
  rw [empty_cl] at h0
  rcases List.eq_nil_or_concat (cl x) with e | ⟨l, c, e⟩
  · rw [e] at h0; cases h0
  · rw [List.concat_eq_append] at e
    rw [item_back e] at h
    unfold stt
    rw [e]
    simp at h ⊢
    exact h
abbrev whites : List Str := [Str.ofString "", Str.ofString " ", Str.ofString "\t", Str.ofString "\n"]
theorem whites_cl : whites.map cl = [[], [32], [9], [10]] := by decide +kernel
theorem any_white {x : Str} (h : (whites.any fun y => y == x) = true) : cl x = [] ∨ ∃ c, cl x = [c] ∧ isW c = true := by
  obtain ⟨y, hy, e⟩ := List.any_eq_true.mp h
  rw [beq_iff_eq] at e
  subst e
  have : cl y ∈ whites.map cl := List.mem_map_of_mem hy
  rw [whites_cl] at this
  simp only [List.mem_cons, List.not_mem_nil, or_false] at this
  rcases this with h | h | h | h
  · exact .inl h
  · exact .inr ⟨_, h, by decide⟩
  · exact .inr ⟨_, h, by decide⟩
  · exact .inr ⟨_, h, by decide⟩
theorem ends_white {x : Str} (h : (whites.any fun y => y == Txt.slice x (some (-1)) none) = true) : endsW (cl x) := by
  have k := any_white h
  rw [slice_last] at k
  intro c hc
  rcases List.eq_nil_or_concat (cl x) with e | ⟨l, d, e⟩
  · rw [e] at hc; cases hc
  · rw [List.concat_eq_append] at e
    rw [e] at hc k
    simp at hc
    have e2 : (l ++ [d]).drop ((l ++ [d]).length - 1) = [d] := by simp
    rw [e2] at k
    rcases k with k | ⟨c', k, hw⟩
    · cases k
    · cases k; rw [← hc]; exact hw
theorem slice_to1 (x : Str) : cl (Txt.slice x none (some 1)) = (cl x).take 1 := by
  have := beq_iff_eq.mp (slice_to_min_closes (x := x) (n := 1) (m := if (x.length : Int) < 1 then (x.length : Int) else 1) (by decide) rfl)
  rw [this, cl_mk]
  simp only [Int.toNat_zero, List.drop_zero]
  by_cases h : (x.length : Int) < 1
  · rw [if_pos h]
    have e : cl x = [] := List.eq_nil_of_length_eq_zero (by rw [cl_len]; exact Nat.lt_one_iff.mp (Int.ofNat_lt.mp h))
    show List.take _ (cl x) = List.take 1 (cl x)
    rw [e]; simp
  · rw [if_neg h]; rfl
theorem begs_white {x : Str} (h : (whites.any fun y => y == Txt.slice x none (some 1)) = true) : begsW (cl x) := by
  have k := any_white h
  rw [slice_to1] at k
  intro c hc
  cases e : cl x with
  | nil => rw [e] at hc; cases hc
  | cons d l =>
    rw [e] at hc k
    simp at hc k
    rw [← hc]; exact k
theorem joinL_app (C D : List (List Nat)) (h1 : C ≠ []) (h2 : D ≠ []) : joinL [32] (C ++ D) = joinL [32] C ++ [32] ++ joinL [32] D := by
  induction C with
  | nil => exact absurd rfl h1
  | cons p C ih =>
    cases C with
    | nil => rw [List.singleton_append, joinL_cons _ _ h2, joinL]
    | cons q C =>
      rw [List.cons_append, joinL_cons _ _ (by simp), ih (by simp), joinL_cons _ p (r := q :: C) (by simp)]
      simp
theorem capN_cut {x y : Str} (gx : Good x) (gy : Good y) (h : endsW (cl x) ∨ begsW (cl y)) : capN (x ++ y) = Txt.join (Str.ofString " ") ([capN x, capN y].filter fun z => z != Str.ofString "") := by
  refine cl_ext ?_
  have ex : (capN x != Str.ofString "") = !((wd (cl x)).isEmpty) := by
    rw [bne, capN_empty gx]
    congr 1
    rw [Bool.eq_iff_iff, decide_eq_true_eq, List.isEmpty_iff, ← wd_nil]
  have ey : (capN y != Str.ofString "") = !((wd (cl y)).isEmpty) := by
    rw [bne, capN_empty gy]
    congr 1
    rw [Bool.eq_iff_iff, decide_eq_true_eq, List.isEmpty_iff, ← wd_nil]
  rw [capN_cl (good_app gx gy), cl_app, wd_cut _ _ h, List.map_append, join_cl, sp_cl]
  simp only [List.filter_cons, List.filter_nil, ex, ey]
  cases e1 : wd (cl x) with
  | nil =>
    cases e2 : wd (cl y) with
    | nil => simp [joinL]
    | cons q r =>
      have k := capN_cl gy
      rw [e2] at k
      simp [joinL, k]
  | cons p r =>
    have kx := capN_cl gx
    rw [e1] at kx
    cases e2 : wd (cl y) with
    | nil => simp [joinL, kx]
    | cons q r' =>
      have k := capN_cl gy
      rw [e2] at k
      have := joinL_app ((p :: r).map capL) ((q :: r').map capL) (by simp) (by simp)
      rw [this]
      simp [joinL, kx, k]
theorem only_cut {ps qs : List (Str × Str)} (g : Good (cat (ps ++ qs))) : onlyB 0 (ps ++ qs) = (onlyB 0 ps && onlyB 0 qs) := by
  have e : cl (cat (ps ++ qs)) = cl (cat ps) ++ cl (cat qs) := by rw [cat_app, cl_app]
  have g1 : Good (cat ps) := fun c hc => g c (by rw [e]; exact List.mem_append_left _ hc)
  have g2 : Good (cat qs) := fun c hc => g c (by rw [e]; exact List.mem_append_right _ hc)
  rw [only_eq g, only_eq g1, only_eq g2, e, Bool.eq_iff_iff]
  simp [or_imp, forall_and]
end Mine
namespace Mine
theorem gr_len1 (m : Nat) : ∀ (l : List Nat) (f : Bool), (gr [m] l 0 f).length = l.length
  | [], f => rfl
  | c :: l, f => by
    rw [gr_one, List.length_append, gr_len1 m l]
    split <;> exact Nat.add_comm 1 _
theorem cap_len {x : Str} {m : Nat} (g : Good x) (hm : m ∈ al) : (capS x ⟨#[m]⟩).length = x.length := by
  rw [← cl_len, cap_gr g hm, gr_len1, cl_len]
end Mine
namespace Mine
theorem sgn_len (acc : List Nat) (c : Nat) : (sgn acc c).length ≤ acc.length + 1 := by
  unfold sgn
  split
  · split
    · exact Nat.le_succ _
    · simp
  · simp
theorem sqz_len : ∀ (l acc : List Nat), (l.foldl sgn acc).length ≤ acc.length + l.length
  | [], acc => by simp
  | c :: l, acc => by
    have h1 := sqz_len l (sgn acc c)
    have h2 := sgn_len acc c
    refine Nat.le_trans h1 (Nat.le_trans (Nat.add_le_add_right h2 _) ?_)
    exact Nat.le_of_eq (ax_turn2 rfl)
theorem capN_len {x : Str} (g : Good x) : (capN x).length ≤ x.length + 1 := by
  rw [← words_cap g]
  unfold wordsS greatS
  rw [← cl_len, sp_cl, cl_mk, cl_mk, gr_len1, List.length_dropLast]
  have h := sqz_len (cl x ++ [32]) []
  rw [List.length_append, cl_len] at h
  have h' : (sqz (cl x ++ [32])).length ≤ x.length + 1 := by
    unfold sqz
    refine Nat.le_trans h ?_
    simp
  exact Nat.le_trans (Nat.sub_le _ _) h'
end Mine
end

section
open PySem PySem.W PyProof.Rows PySem.Calls Builtin Builtin.ObjectAttr
set_option maxRecDepth 100000
set_option maxHeartbeats 4000000
namespace Mine
abbrev mapR (a dl : Addr) (k : Int) (tk : Tok) (wv : Option Value) (u : Str → Option Value) : Str → Option Value :=
  fun y => if y = Str.ofString "what" then wv else if y = Str.ofString "size" then some (.int k tk) else if y = Str.ofString "held" then some (.ref a) else if y = Str.ofString "deeds" then some (.ref dl) else u y
inductive RS (w : World) (G : Heap) (L P Q I : Addr) (oI : Obj) (dl : Addr) (os : OsState) (dr : Drawn) (ps : List (Str × Str)) (k : Int) (wv : Option Value) (s : Shared) : Prop
  | mk (a d l : Addr) (vs us : List Value) (tl : List (Addr × Obj)) (oP oQ oC : Obj) (n1 n2 nl : Nat) (tk t1 t2 : Tok) (u : Str → Option Value)
    (F : Fr G L s.heap (mapR a dl k tk wv u)) (N : News G L s.heap ((P, oP) :: (Q, oQ) :: (a, accObj d vs n1) :: (d, szDict w k t1 t2 n2) :: (l, listOf us.toArray nl) :: (L + 1, oC) :: (I, oI) :: tl)) (hC : oC.data = .cell (some (.ref l)))
    (tP : TabOk w 60 P oP) (tQ : TabOk w 67 Q oQ) (hv : PrsL tl vs ps) (hu : PrsL tl us ps) (bare : AllBare s.gens) (hos : s.os = os) (hdr : s.drawn = dr) : RS w G L P Q I oI dl os dr ps k wv s
section
variable {w : World} {G h : Heap} {L P Q I a d l dl : Addr} {m : Str → Option Value} {tl : List (Addr × Obj)} {vs us : List Value} {ps : List (Str × Str)}
theorem fr_mapR {k : Int} {tk : Tok} {wv : Option Value} (F : Fr G L h m) (e0 : m (Str.ofString "what") = wv) (e1 : m (Str.ofString "size") = some (.int k tk)) (e2 : m (Str.ofString "held") = some (.ref a)) (e4 : m (Str.ofString "deeds") = some (.ref dl)) :
    Fr G L h (mapR a dl k tk wv m) := by
  have e : mapR a dl k tk wv m = m := by
    funext y
    show (if y = _ then _ else _) = _
    split
    · rename_i q; rw [q, e0]
    split
    · rename_i q; rw [q, e1]
    split
    · rename_i q; rw [q, e2]
    split
    · rename_i q; rw [q, e4]
    · rfl
  rw [e]; exact F
theorem PrsL.more {x : Addr × Obj} (p : PrsL tl vs ps) (hx : x.2.cls = .type "tuple" ∧ ∃ z n, x.2.data = .seq z n) : PrsL (x :: tl) vs ps :=
  ⟨p.len, fun q hq => by rcases List.mem_cons.mp hq with rfl | hq; exact hx; exact p.tup q hq, fun j q e => by obtain ⟨T, ot, tx, ty, n, e1, e2, e3⟩ := p.at_ j q e; exact ⟨T, ot, tx, ty, n, e1, .tail _ e2, e3⟩⟩
theorem PrsL.cons {x : Addr × Obj} {T : Addr} {a b : Str} {tx ty : Tok} (p : PrsL tl vs ps) (e : x = (T, tupO a tx b ty)) : PrsL (x :: tl) vs ps := p.more (by rw [e]; exact ⟨rfl, _, _, rfl⟩)
theorem PrsL.lastRef {p : Str × Str} {v : Value} (x : PrsL tl (vs ++ [v]) (ps ++ [p])) : ∃ T ot tx ty n, v = .ref T ∧ (T, ot) ∈ tl ∧ ot.cls = .type "tuple" ∧ ot.data = .seq #[.str p.1 tx, .str p.2 ty] n := by
  have hl : vs.length = ps.length := by have := x.len; simp at this; exact this
  obtain ⟨T, ot, tx, ty, n, e1, e2⟩ := x.at_ ps.length p (by simp)
  rw [← hl] at e1
  simp at e1
  exact ⟨T, ot, tx, ty, n, e1, e2⟩
end
def menu1 : List Str := [Str.ofString "", Str.ofString " ", Str.ofString "\t", Str.ofString " \n"]
def menu2 : List Str := [Str.ofString "", Str.ofString "a", Str.ofString "bA", Str.ofString "a a", Str.ofString "aaa", Str.ofString "Zaab"]
def Mn (ps : List (Str × Str)) : Prop := ∀ p ∈ ps, p.1 ∈ menu1 ∧ p.2 ∈ menu2
theorem getD_mem {α : Type} {l : List α} {i : Nat} {d : α} (h : i < l.length) : l.getD i d ∈ l := by
  rw [List.getD_eq_getElem?_getD, List.getElem?_eq_getElem h]; exact List.getElem_mem h
theorem na_of2 {w : World} {G h : Heap} {L a d : Addr} {vs : List Value} {n : Nat} {rest : List (Addr × Obj)} (N : News G L h ((a, accObj d vs n) :: rest)) (hc : ∀ p ∈ rest, ∀ d vs n, p.2 ≠ accObj d vs n) : ∀ p ∈ rest, p.1 ≠ a := by
  intro p hp z
  have e1 := (N p (.tail _ hp)).1
  rw [z, (N _ (.head _)).1] at e1
  exact hc p hp _ _ _ (Option.some.inj e1).symm
theorem acc_ne_tab {o : Obj} (h : ∃ z, o.data = .fields z) : ∀ d vs n, o ≠ accObj d vs n := fun d vs n z => by obtain ⟨y, hy⟩ := h; rw [z] at hy; cases hy
theorem acc_ne_cell {o : Obj} {v : Option Value} (h : o.data = .cell v) : ∀ d vs n, o ≠ accObj d vs n := fun d vs n z => by rw [z] at h; cases h
theorem acc_ne_cls {o : Obj} {t : String} (h : o.cls = .type t) : ∀ d vs n, o ≠ accObj d vs n := fun d vs n z => by rw [z] at h; cases h
structure Trn (ps : List (Str × Str)) (k : Int) (ps' : List (Str × Str)) (k' : Int) : Prop where
  len : ps'.length ≤ ps.length + 1
  mn : Mn ps → Mn ps'
  k : k' = k ∨ k' = 0
structure NJ (J : Shared → Prop) (f : Flow) (s : Shared) : Prop where
  nx : f = .next
  j : J s
theorem joinJ {w : World} {A : Around} {E : Value → Shared → Prop} {s : Shared} {J : Shared → Prop} {st : Stmt} {rest : List Stmt} {env : Env} {QQ : Flow → Shared → Prop}
    (h1 : wpAny (model PG w) A (exec st env) (NJ J) E s) (h2 : ∀ s', J s' → wpAny (model PG w) A (execs rest env) QQ E s') :
    wpAny (model PG w) A (execs (st :: rest) env) QQ E s :=
  wpAny_execs_cons (wpAny_mono h1 (fun f s' h => by obtain ⟨rfl, h⟩ := h; exact h2 s' h) fun _ _ e => e)
abbrev JI (w : World) (G : Heap) (L P Q I : Addr) (oI : Obj) (dl : Addr) (os : OsState) (dr : Drawn) (ps : List (Str × Str)) (k wt : Int) (s : Shared) : Prop :=
  ∃ ps' k' tw, Trn ps k ps' k' ∧ RS w G L P Q I oI dl os dr ps' k' (some (.int wt tw)) s
theorem mn_drop {ps : List (Str × Str)} (h : Mn ps) (c : Nat) : Mn (ps.drop c) := fun p hp => h p (List.mem_of_mem_drop hp)
theorem mn_take {ps : List (Str × Str)} (h : Mn ps) (c : Nat) : Mn (ps.take c) := fun p hp => h p (List.mem_of_mem_take hp)
theorem menu1_len : ∀ x ∈ menu1, x.length ≤ 2 := by decide +kernel
theorem menu2_len : ∀ x ∈ menu2, x.length ≤ 4 := by decide +kernel
theorem mn_small {ps : List (Str × Str)} (h : Mn ps) : ∀ p ∈ ps, p.1.length ≤ 1000 ∧ p.2.length ≤ 1000 := fun p hp => ⟨Nat.le_trans (menu1_len _ (h p hp).1) (by decide), Nat.le_trans (menu2_len _ (h p hp).2) (by decide)⟩
section
variable {w : World}
theorem dict_ne_tab {o : Obj} {k : Int} {tk tn : Tok} {n : Nat} (h : ∃ z, o.data = .fields z) : o ≠ szDict w k tk tn n := fun z => by obtain ⟨y, hy⟩ := h; rw [z] at hy; cases hy
theorem dict_ne_cell {o : Obj} {k : Int} {tk tn : Tok} {n : Nat} {v : Option Value} (h : o.data = .cell v) : o ≠ szDict w k tk tn n := fun z => by rw [z] at h; cases h
theorem dict_ne_cls {o : Obj} {k : Int} {tk tn : Tok} {n : Nat} {t : String} (h : o.cls = .type t) (ht : t ≠ "dict") : o ≠ szDict w k tk tn n := fun z => by rw [z] at h; injection h with h; exact ht h.symm
theorem nd_of2 {G h : Heap} {L d : Addr} {k : Int} {tk tn : Tok} {n0 : Nat} {rest : List (Addr × Obj)} (N : News G L h ((d, szDict w k tk tn n0) :: rest)) (hc : ∀ p ∈ rest, p.2 ≠ szDict w k tk tn n0) : ∀ p ∈ rest, p.1 ≠ d := by
  intro p hp z
  have e1 := (N p (.tail _ hp)).1
  rw [z, (N _ (.head _)).1] at e1
  exact hc p hp (Option.some.inj e1).symm
theorem nc_of {G h : Heap} {L c : Addr} {oC : Obj} {v : Option Value} {rest : List (Addr × Obj)} (N : News G L h ((c, oC) :: rest)) (hC : oC.data = .cell v) (hc : ∀ p ∈ rest, ∀ u, p.2.data ≠ .cell u) : ∀ p ∈ rest, p.1 ≠ c := by
  intro p hp z
  have e1 := (N p (.tail _ hp)).1
  rw [z, (N _ (.head _)).1] at e1
  exact hc p hp v (by rw [← Option.some.inj e1]; exact hC)
theorem store_C {M : Model} {A : Around} {E : Value → Shared → Prop} {s : Shared} {G : Heap} {L a c : Addr} {m : Str → Option Value} {cn x : Str} {cs : Scope} {ccd v : Value} {v₀ : Option Value} {cl : List (Str × Addr)} {oC : Obj} {rest : List (Addr × Obj)} {QQ : Unit → Shared → Prop} (F : Fr G L s.heap m) (N : News G L s.heap ((c, oC) :: rest)) (hC : oC.data = .cell v₀) (hne : ∀ p ∈ rest, p.1 ≠ c) (hc : cl.lookup x = some c)
    (hk : cs.kind = .function) (hx : (envX cn cs L a ccd cl).kindOf x = some .cell)
    (h : ∀ h' o', Fr G L h' m → News G L h' ((c, o') :: rest) → o'.data = .cell (some v) → QQ () { s with heap := h' }) : wpAny M A (storeName (envX cn cs L a ccd cl) x v) QQ E s := by
  have hmem := N _ (.head _)
  refine wpAny_storeName_cell hk hx hc ⟨_, hmem.1, hC⟩ fun h' hv hs => ?_
  obtain ⟨o', ho', hd'⟩ := hv
  refine h h' o' ⟨F.ns.sameBut hs (Ne.symm hmem.2.1), fun b ob e => (hs.2 b (fun q => ?_)).trans (F.keep b ob e), F.above⟩ (fun p hp => ?_) hd'
  · rw [q, hmem.2.2] at e; cases e
  rcases List.mem_cons.mp hp with rfl | hp
  · exact ⟨ho', hmem.2⟩
  · exact ⟨(hs.2 _ (hne p hp)).trans (N p (.tail _ hp)).1, (N p (.tail _ hp)).2⟩
theorem item_L {prog : Program} {A : Around} {E : Value → Shared → Prop} {s : Shared} {value slice : PySem.Expr} {l : Addr} {vs : List Value} {k : Int} {u : Tok} {v : Value} {QQ : Value → Shared → Prop} (hl : s.heap.IsList l vs.toArray) (h0 : 0 ≤ k) (h1 : k < 2 ^ 63) (hx : vs[k.toNat]? = some v)
    (hs : subscripted slice false (.ref l) (.int k u) = operate [.ref l, .int k u] (getItem (.ref l) (.int k u))) (h : QQ v s) : wpAny (model prog w) A (subscriptTail value slice (.ref l) (.int k u)) QQ E s :=
  tail_any hl.typeIs slot_list_getitem.lookup (wpAny_getItem_list hl h0 h1 (by simpa using hx) h) hs
theorem pick_init (us : List Value) (v : Value) : slicePick (us ++ [v]).toArray none (some (-1)) none = us.toArray := by
  rw [kms_pick_eq]
  simp [kms_pick, kms_lo, kms_hi]
theorem pick_nil : slicePick #[] none (some (-1)) none = #[] := by
  rw [kms_pick_eq]
  simp [kms_pick]
theorem pick_to (us : List Value) {c : Int} (h : 0 ≤ c) : slicePick us.toArray none (some c) none = (us.take c.toNat).toArray := by
  rw [kms_pick_eq]
  unfold kms_pick kms_lo kms_hi
  simp only [List.drop_zero, Nat.sub_zero, if_neg (Int.not_lt.mpr h)]
  rw [kmk_take_min]
theorem pick_from (us : List Value) {c : Int} (h : 0 ≤ c) : slicePick us.toArray (some c) none none = (us.drop c.toNat).toArray := by
  rw [kms_pick_eq]
  unfold kms_pick kms_lo kms_hi
  simp only [if_neg (Int.not_lt.mpr h), kmk_drop_min]
  rw [List.take_of_length_le]
  rw [List.length_drop]
  exact ax_cut _ _
theorem pair_last {h : Heap} {tl : List (Addr × Obj)} {vs : List Value} {ps : List (Str × Str)} {v : Value} {p : Str × Str} (x : PrsL tl (vs ++ [v]) (ps ++ [p])) (ht : ∀ q ∈ tl, h.get? q.1 = some q.2) : PairAt h v p := by
  obtain ⟨T, ot, tx, ty, n, e1, e2, e3, e4⟩ := x.lastRef
  exact ⟨T, tx, ty, e1, ot, ht _ e2, e3, n, e4⟩
theorem PrsL.init {tl : List (Addr × Obj)} {vs : List Value} {ps : List (Str × Str)} {v : Value} {p : Str × Str} (x : PrsL tl (vs ++ [v]) (ps ++ [p])) : PrsL tl vs ps := by
  have hl : vs.length = ps.length := by have := x.len; simp at this; exact this
  have := x.take vs.length
  rw [List.take_left, hl, List.take_left] at this
  exact this
theorem menu1_ok : ∀ x ∈ menu1, PyData.strOk x = true := by decide +kernel
theorem menu2_ok : ∀ x ∈ menu2, PyData.strOk x = true := by decide +kernel
theorem mn_sok {ps : List (Str × Str)} (h : Mn ps) : SOk ps := fun p hp => ⟨menu1_ok _ (h p hp).1, menu2_ok _ (h p hp).2⟩
theorem plain_nc {P Q a d D I : Addr} {oP oQ oI : Obj} {zI : Array Value} {us vs : List Value} {n1 n2 nl : Nat} {k : Int} {t1 t2 : Tok} {tl : List (Addr × Obj)} {ws : List Value} {ps : List (Str × Str)} (tP : TabOk w 60 P oP) (tQ : TabOk w 67 Q oQ) (hId : oI.data = .fields zI) (hv : PrsL tl ws ps) :
    ∀ p ∈ (D, listOf us.toArray nl) :: (P, oP) :: (Q, oQ) :: (a, accObj d vs n1) :: (d, szDict w k t1 t2 n2) :: (I, oI) :: tl, ∀ u, p.2.data ≠ .cell u := by
  refine List.forall_mem_cons.mpr ⟨?_, List.forall_mem_cons.mpr ⟨?_, List.forall_mem_cons.mpr ⟨?_, List.forall_mem_cons.mpr ⟨?_, List.forall_mem_cons.mpr ⟨?_, List.forall_mem_cons.mpr ⟨?_, fun p hp => ?_⟩⟩⟩⟩⟩⟩
  · exact nc rfl
  · obtain ⟨z, e⟩ := tP.1; rw [e]; exact nc rfl
  · obtain ⟨z, e⟩ := tQ.1; rw [e]; exact nc rfl
  · exact nc rfl
  · exact nc rfl
  · rw [hId]; exact nc rfl
  · obtain ⟨z, n, e⟩ := (hv.tup p hp).2; rw [e]; exact nc rfl
theorem end_turn {prog : Program} {A : Around} {E : Value → Shared → Prop} {s : Shared} {G : Heap} {L f : Addr} {m : Str → Option Value} {cn : Str} {cs : Scope} {ccd : Value} {v₀ : Option Value} {cl : List (Str × Addr)} {oC oP oQ oI : Obj} {P Q a d D I dl : Addr} {zI : Array Value} {us vs : List Value} {n1 n2 nl : Nat} {k k' wt : Int} {tk tw t1 t2 : Tok} {tl : List (Addr × Obj)} {ps ps' : List (Str × Str)} {os : OsState} {dr : Drawn}
    (F : Fr G L s.heap m) (N : News G L s.heap ((L + 1, oC) :: (D, listOf us.toArray nl) :: (P, oP) :: (Q, oQ) :: (a, accObj d vs n1) :: (d, szDict w k' t1 t2 n2) :: (I, oI) :: tl)) (hC : oC.data = .cell v₀) (hId : oI.data = .fields zI) (tP : TabOk w 60 P oP) (tQ : TabOk w 67 Q oQ) (hv : PrsL tl vs ps') (hu : PrsL tl us ps') (bare : AllBare s.gens) (T : Trn ps k ps' k')
    (e0 : m (Str.ofString "what") = some (.int wt tw)) (e1 : m (Str.ofString "size") = some (.int k' tk)) (e2 : m (Str.ofString "held") = some (.ref a)) (e4 : m (Str.ofString "deeds") = some (.ref dl))
    (hc : cl.lookup (Str.ofString "plain") = some (L + 1)) (hk : cs.kind = .function) (hx : (envX cn cs L f ccd cl).kindOf (Str.ofString "plain") = some .cell) (hos : s.os = os) (hdr : s.drawn = dr) :
    wpAny (model prog w) A (storeName (envX cn cs L f ccd cl) (Str.ofString "plain") (.ref D)) (fun _ s' => wpAny (model prog w) A (execs [] (envX cn cs L f ccd cl)) (NJ (JI w G L P Q I oI dl os dr ps k wt)) E s') E s := by
  refine store_C F N hC (nc_of N hC (plain_nc tP tQ hId hv)) hc hk hx fun h' o' F' N' d' => wpAny_execs_nil ?_
  refine ⟨rfl, ps', k', tw, T, RS.mk a d D vs us tl oP oQ o' n1 n2 nl tk t1 t2 m (fr_mapR F' e0 e1 e2 e4) (nsub N' (by (repeat' refine List.forall_mem_cons.mpr ⟨by k_mem, ?_⟩); intro p hp; first | (cases hp; done) | (repeat (first | exact hp | refine List.Mem.tail _ ?_)))) d' tP tQ hv hu bare hos hdr⟩
end
end Mine
end

section
open PySem PySem.W PyProof.Rows PySem.Calls Builtin Builtin.ObjectAttr
set_option maxRecDepth 100000
set_option maxHeartbeats 4000000
namespace Mine
section
variable {w : World} {A : Around} {s : Shared} {L P Q I dl : Addr} {mg mb : Str → Option Value} {mean : ExcName → Option Value} {G : Heap} {E : Value → Shared → Prop} {ps : List (Str × Str)} {k : Int} {wv : Option Value} {oI : Obj} {QQ : Flow → Shared → Prop} {os : OsState} {dr : Drawn}
local macro_rules | `(tactic| walk_at "getMethod ref") => `(tactic| (k_here; refine stop1 ?_))
local macro_rules | `(tactic| walk_at "call ref") => `(tactic| (k_here; refine stop1 ?_))
local macro_rules | `(tactic| walk_at "storeName") => `(tactic| (k_here; (with_reducible show wpAny _ _ (storeName _ (PySem.Str.ofString "plain") _) _ _ _); refine stop1 ?_))
local macro_rules | `(tactic| walk_at "binaryOp Add ref ref") => `(tactic| (k_here; refine stop1 ?_))
theorem run_br1 {name qual : Str} {params : Arguments} {body : List Stmt} {scope : Scope} {dV kV doc pm ct oc cdv : Value} {an od : Option Addr} {osl : Array (Option Value)} {br1 br2 br3 more more2 : List Stmt} {tg it test test2 : PySem.Expr} {pp p1 p2 : Pos} {s1 s2 s3 : Stmt} {n c wt kd : Int} {tn tc tw tkd : Tok}
    {zI : Array Value} {a d l : Addr} {vs us : List Value} {tl : List (Addr × Obj)} {oP oQ oC : Obj} {n1 n2 nl : Nat} {tk t1 t2 : Tok} {u : Str → Option Value}
    (hk : (hd.heap_39 w.params).lookup 142 = some ⟨oc, od, .func (fnOf name qual params body scope dV kV doc pm an cdv ct), osl⟩) (hr : body.drop 2 = .For tg it (s1 :: s2 :: s3 :: .If test br1 [.If test2 br2 br3 p2] p1 :: more2) [] pp :: more)
    (GX : (hd.heap_39 w.params).In G) (GT : TopV mean mg mb G) (hroom : A.depth + 8 < recursionLimit) (huu : A.units + 90 < cLine) (hh : A.handled = none)
    (F3 : Fr G L s.heap (fun y => if y = Str.ofString "cut" then some (.int c tc) else if y = Str.ofString "what" then some (.int wt tw) else if y = Str.ofString "kind" then some (.int kd tkd) else if y = Str.ofString "deed" then some (.int n tn) else mapR a dl k tk wv u y)) (N3 : News G L s.heap ((P, oP) :: (Q, oQ) :: (a, accObj d vs n1) :: (d, szDict w k t1 t2 n2) :: (l, listOf us.toArray nl) :: (L + 1, oC) :: (I, oI) :: tl)) (hC : oC.data = .cell (some (.ref l)))
    (hIc : oI.cls = .type "list_iterator") (hId : oI.data = .fields zI) (tP : TabOk w 60 P oP) (tQ : TabOk w 67 Q oQ) (hv : PrsL tl vs ps) (hu : PrsL tl us ps) (bare : AllBare s.gens)
    (hps : ps.length ≤ 12) (mn : Mn ps) (hk0 : 0 ≤ k ∧ k ≤ 1000) (hc0 : 0 ≤ c) (hc4 : c < 4) (hw0 : 0 ≤ wt) (hw1 : wt ≤ 1000000) (hos : s.os = os) (hdr : s.drawn = dr) :
    wpAny (model PySem.Challenge.rw_nb0052_01.row.prog w) A (execs br1 (envOfC qual scope L 142 cdv)) (NJ (JI w G L P Q I oI dl os dr ps k wt)) E s := by
  obtain ⟨hd9, dp9, fr9, gd9, units9⟩ := A
  cases hh
  obtain ⟨h2, g2, d2, tk2, o2⟩ := s
  (try dsimp only at hos)
  (try dsimp only at hdr)
  subst hos hdr
  revert hk; k_fill; intro hk
  k_dflt (refine' (fun q => ?_ : _ → _) (key_of hk ?hk9); (case hk9 => k_is))
  obtain ⟨rfl, rfl, rfl, rfl⟩ := q
  clear hk
  change _ :: _ = _ at hr
  cases hr
  dsimp only [mapR] at F3 N3

  have r : ∀ n, n ≤ 8 → (Around.mk none dp9 fr9 gd9 units9).depth + n < recursionLimit := fun n hn => Nat.lt_of_le_of_lt (Nat.add_le_add_left hn dp9) hroom
  have r0 : (Around.mk none dp9 fr9 gd9 units9).depth < recursionLimit := Nat.lt_of_le_of_lt (Nat.le_add_right dp9 8) hroom
  have sm' := mn_small mn
  have hl12 : ps.length ≤ 1000 := Nat.le_trans hps (by decide)
  have H : ∀ {hh : Heap} {x y z : Obj}, News G L hh ((P, x) :: (Q, y) :: (a, accObj d vs n1) :: (d, szDict w k t1 t2 n2) :: (l, listOf us.toArray nl) :: (L + 1, z) :: (I, oI) :: tl) → Hold w hh a d vs k ps := fun N => hold_led N (.tail _ (.tail _ (.head _))) (.tail _ (.tail _ (.tail _ (.head _)))) hv (fun q hq => .tail _ (.tail _ (.tail _ (.tail _ (.tail _ (.tail _ (.tail _ hq))))))) hl12 sm' hk0
  k_with "table" => skip
  k_steps
  try refine Stop.mk ?_
  rename_i tx ltx l'2 h62 l12 ty lty T h7 l1 h8 F4 N4
  refine methK (f := .ref 38) (TT := "function") F4 GX (H (nsub N4 fun p hp => .tail _ (.tail _ (.tail _ hp)))) (by kernel_rfl) (by kernel_rfl) (by decide) (by decide) ?_
  k_steps
  try refine Stop.mk ?_
  have N5 : News G L _ ((a, accObj d vs n1) :: (d, szDict w k t1 t2 n2) :: (T, _) :: (l, listOf us.toArray nl) :: (P, oP) :: (Q, oQ) :: (L + 1, oC) :: (I, oI) :: tl) := nsub N4 (by (repeat' refine List.forall_mem_cons.mpr ⟨by k_mem, ?_⟩); intro p hp; first | (cases hp; done) | (repeat (first | exact hp | refine List.Mem.tail _ ?_)))
  refine pushK F4 N5 (.head _) (na_of2 (w := w) N5 ?_) GX GT r0 (by rw [hv.len]; exact Nat.lt_of_le_of_lt hps (by decide)) ?_
  · refine List.forall_mem_cons.mpr ⟨?_, List.forall_mem_cons.mpr ⟨?_, List.forall_mem_cons.mpr ⟨?_, List.forall_mem_cons.mpr ⟨?_, List.forall_mem_cons.mpr ⟨?_, List.forall_mem_cons.mpr ⟨?_, List.forall_mem_cons.mpr ⟨?_, fun p hp => ?_⟩⟩⟩⟩⟩⟩⟩
    · exact acc_ne_cls rfl
    · exact acc_ne_cls rfl
    · exact acc_ne_cls rfl
    · exact acc_ne_tab tP.1
    · exact acc_ne_tab tQ.1
    · exact acc_ne_cell hC
    · exact acc_ne_cls hIc
    · exact acc_ne_cls (hv.tup p hp).1
  intro t5 h5 tk5 n5 F5 N6 hta htn
  clear F4 N4 N5
  k_steps
  try refine Stop.mk ?_
  rename_i l6 h6 F6 N7 lt6
  refine add_arrays F6 N7 (its := us.toArray) (its2 := #[.ref T]) ⟨_, (N7 (l, listOf us.toArray nl) (by simp)).1, rfl, nl, rfl⟩ ⟨_, (N7 _ (.head _)).1, rfl, 0, rfl⟩ ?_ ?_
  · intro h8 F8 N8
    clear F6 N7
    have hv1 := hv.snoc (t := t5) (p := (menu1.getD c.toNat Str.empty, menu2.getD ((wt.fdiv 4).fmod 6).toNat Str.empty)) (tx := tx) (ty := ty)
    have hu1 := hu.snoc (t := T) (p := (menu1.getD c.toNat Str.empty, menu2.getD ((wt.fdiv 4).fmod 6).toNat Str.empty)) (tx := tx) (ty := ty)
    have N9 : News G L _ ((L + 1, oC) :: (h6.objs.size, listOf (us ++ [Value.ref T]).toArray 0) :: (P, oP) :: (Q, oQ) :: (a, accObj d (vs ++ [Value.ref t5]) n5) :: (d, szDict w k t1 t2 n2) :: (I, oI) :: (T, tupO (menu1.getD c.toNat Str.empty) tx (menu2.getD ((wt.fdiv 4).fmod 6).toNat Str.empty) ty) :: (t5, tupO (menu1.getD c.toNat Str.empty) tx (menu2.getD ((wt.fdiv 4).fmod 6).toNat Str.empty) ty) :: tl) := nsub N8 (by (repeat' refine List.forall_mem_cons.mpr ⟨by k_mem, ?_⟩); intro p hp; first | (cases hp; done) | (repeat (first | exact hp | refine List.Mem.tail _ ?_)))
    clear N8
    refine store_C F8 N9 hC (nc_of N9 hC ?_) rfl rfl rfl ?_
    · refine List.forall_mem_cons.mpr ⟨?_, List.forall_mem_cons.mpr ⟨?_, List.forall_mem_cons.mpr ⟨?_, List.forall_mem_cons.mpr ⟨?_, List.forall_mem_cons.mpr ⟨?_, List.forall_mem_cons.mpr ⟨?_, List.forall_mem_cons.mpr ⟨?_, List.forall_mem_cons.mpr ⟨?_, fun p hp => ?_⟩⟩⟩⟩⟩⟩⟩⟩
      · exact nc rfl
      · obtain ⟨z, e⟩ := tP.1; rw [e]; exact nc rfl
      · obtain ⟨z, e⟩ := tQ.1; rw [e]; exact nc rfl
      · exact nc rfl
      · exact nc rfl
      · rw [hId]; exact nc rfl
      · exact nc rfl
      · exact nc rfl
      · obtain ⟨z, n, e⟩ := (hv.tup p hp).2; rw [e]; exact nc rfl
    intro h10 oC' F10 N10 d10
    clear F8 N9
    k_steps
    try refine Stop.mk ?_
    have ltx' : c.toNat < menu1.length := ltx
    have lty' : ((wt.fdiv 4).fmod 6).toNat < menu2.length := lty
    refine ⟨rfl, ps ++ [(menu1.getD c.toNat Str.empty, menu2.getD ((wt.fdiv 4).fmod 6).toNat Str.empty)], k, _, ⟨by simp, fun hm p hp => ?_, .inl rfl⟩,
      RS.mk a d h6.objs.size (vs ++ [.ref t5]) (us ++ [.ref T]) ((T, tupO (menu1.getD c.toNat Str.empty) tx (menu2.getD ((wt.fdiv 4).fmod 6).toNat Str.empty) ty) :: (t5, tupO (menu1.getD c.toNat Str.empty) tx (menu2.getD ((wt.fdiv 4).fmod 6).toNat Str.empty) ty) :: tl) oP oQ oC' n5 n2 0 _ t1 t2 _ (fr_mapR F10 rfl rfl rfl rfl) (nsub N10 (by (repeat' refine List.forall_mem_cons.mpr ⟨by k_mem, ?_⟩); intro p hp; first | (cases hp; done) | (repeat (first | exact hp | refine List.Mem.tail _ ?_)))) d10 tP tQ (hv1.cons rfl) ?_ bare rfl rfl⟩
    · rcases List.mem_append.mp hp with h | h
      · exact hm p h
      · rw [List.mem_singleton.mp h]
        exact ⟨getD_mem ltx', getD_mem lty'⟩
    · exact ⟨hu1.len, fun q hq => by
        simp only [List.mem_cons] at hq
        rcases hq with rfl | rfl | hq
        · exact ⟨rfl, _, _, rfl⟩
        · exact ⟨rfl, _, _, rfl⟩
        · exact hu.tup q hq, fun j p e => by
        obtain ⟨T', ot, tx', ty', n', e1, e2, e3⟩ := hu1.at_ j p e
        refine ⟨T', ot, tx', ty', n', e1, ?_, e3⟩
        rcases List.mem_cons.mp e2 with h | h
        · exact h ▸ .head _
        · exact .tail _ (.tail _ h)⟩
  · have := hu.len
    show us.toArray.size + 1 ≤ _
    rw [List.size_toArray]
    exact Nat.le_trans (show us.length + 1 ≤ 13 from this ▸ Nat.succ_le_succ hps) (by decide)
end
end Mine
end

section
open PySem PySem.W PyProof.Rows PySem.Calls Builtin Builtin.ObjectAttr
set_option maxRecDepth 100000
set_option maxHeartbeats 4000000
namespace Mine
section
variable {w : World} {A : Around} {s : Shared} {L P Q I dl : Addr} {mg mb : Str → Option Value} {mean : ExcName → Option Value} {G : Heap} {E : Value → Shared → Prop} {ps : List (Str × Str)} {k : Int} {wv : Option Value} {oI : Obj} {QQ : Flow → Shared → Prop} {os : OsState} {dr : Drawn}
local macro_rules | `(tactic| walk_at "subscriptTail Name Call ref int") => `(tactic| (k_here; refine stop1 ?_))
local macro_rules | `(tactic| walk_at "getMethod ref") => `(tactic| (k_here; refine stop1 ?_))
local macro_rules | `(tactic| walk_at "call ref") => `(tactic| (k_here; refine stop1 ?_))
local macro_rules | `(tactic| walk_at "storeName") => `(tactic| (k_here; (with_reducible show wpAny _ _ (storeName _ (PySem.Str.ofString "plain") _) _ _ _); refine stop1 ?_))
local macro_rules | `(tactic| walk_at "call builtin:len") => `(tactic| (k_here; (with_reducible show wpAny _ _ (call _ [Value.ref _]) _ _ _); refine stop1 ?_))
local macro_rules | `(tactic| walk_at "subscriptTail Name Slice ref ref") => `(tactic| (k_here; refine stop1 ?_))
local macro_rules | `(tactic| walk_at "compareOp NotEq ref ref") => `(tactic| (k_here; refine stop1 ?_))
theorem run_br2 {name qual : Str} {params : Arguments} {body : List Stmt} {scope : Scope} {dV kV doc pm ct oc cdv : Value} {an od : Option Addr} {osl : Array (Option Value)} {br1 br2 br3 more more2 : List Stmt} {tg it test test2 : PySem.Expr} {pp p1 p2 : Pos} {s1 s2 s3 : Stmt} {n c wt kd : Int} {tn tc tw tkd : Tok}
    {zI : Array Value} {a d l : Addr} {vs us : List Value} {tl : List (Addr × Obj)} {oP oQ oC : Obj} {n1 n2 nl : Nat} {tk t1 t2 : Tok} {u : Str → Option Value}
    (hk : (hd.heap_39 w.params).lookup 142 = some ⟨oc, od, .func (fnOf name qual params body scope dV kV doc pm an cdv ct), osl⟩) (hr : body.drop 2 = .For tg it (s1 :: s2 :: s3 :: .If test br1 [.If test2 br2 br3 p2] p1 :: more2) [] pp :: more)
    (GX : (hd.heap_39 w.params).In G) (GT : TopV mean mg mb G) (hroom : A.depth + 8 < recursionLimit) (huu : A.units + 90 < cLine) (hh : A.handled = none)
    (F3 : Fr G L s.heap (fun y => if y = Str.ofString "cut" then some (.int c tc) else if y = Str.ofString "what" then some (.int wt tw) else if y = Str.ofString "kind" then some (.int kd tkd) else if y = Str.ofString "deed" then some (.int n tn) else mapR a dl k tk wv u y)) (N3 : News G L s.heap ((P, oP) :: (Q, oQ) :: (a, accObj d vs n1) :: (d, szDict w k t1 t2 n2) :: (l, listOf us.toArray nl) :: (L + 1, oC) :: (I, oI) :: tl)) (hC : oC.data = .cell (some (.ref l)))
    (hIc : oI.cls = .type "list_iterator") (hId : oI.data = .fields zI) (tP : TabOk w 60 P oP) (tQ : TabOk w 67 Q oQ) (hv : PrsL tl vs ps) (hu : PrsL tl us ps) (bare : AllBare s.gens)
    (hps : ps.length ≤ 12) (mn : Mn ps) (hk0 : 0 ≤ k ∧ k ≤ 1000) (hc0 : 0 ≤ c) (hc4 : c < 4) (hw0 : 0 ≤ wt) (hw1 : wt ≤ 1000000) (hos : s.os = os) (hdr : s.drawn = dr) :
    wpAny (model PySem.Challenge.rw_nb0052_01.row.prog w) A (execs br2 (envOfC qual scope L 142 cdv)) (NJ (JI w G L P Q I oI dl os dr ps k wt)) E s := by
  obtain ⟨hd9, dp9, fr9, gd9, units9⟩ := A
  cases hh
  obtain ⟨h2, g2, d2, tk2, o2⟩ := s
  (try dsimp only at hos)
  (try dsimp only at hdr)
  subst hos hdr
  revert hk; k_fill; intro hk
  k_dflt (refine' (fun q => ?_ : _ → _) (key_of hk ?hk9); (case hk9 => k_is))
  obtain ⟨rfl, rfl, rfl, rfl⟩ := q
  clear hk
  change _ :: _ = _ at hr
  cases hr
  dsimp only [mapR] at F3 N3

  have r : ∀ n, n ≤ 8 → (Around.mk none dp9 fr9 gd9 units9).depth + n < recursionLimit := fun n hn => Nat.lt_of_le_of_lt (Nat.add_le_add_left hn dp9) hroom
  have r0 : (Around.mk none dp9 fr9 gd9 units9).depth < recursionLimit := Nat.lt_of_le_of_lt (Nat.le_add_right dp9 8) hroom
  have sm' := mn_small mn
  have hl12 : ps.length ≤ 1000 := Nat.le_trans hps (by decide)
  have H : ∀ {hh : Heap} {x y z : Obj}, News G L hh ((P, x) :: (Q, y) :: (a, accObj d vs n1) :: (d, szDict w k t1 t2 n2) :: (l, listOf us.toArray nl) :: (L + 1, z) :: (I, oI) :: tl) → Hold w hh a d vs k ps := fun N => hold_led N (.tail _ (.tail _ (.head _))) (.tail _ (.tail _ (.tail _ (.head _)))) hv (fun q hq => .tail _ (.tail _ (.tail _ (.tail _ (.tail _ (.tail _ (.tail _ hq))))))) hl12 sm' hk0
  have hsz : us.toArray.size + 1 ≤ sizeLine := by
    have := hu.len
    rw [List.size_toArray]
    exact Nat.le_trans (show us.length + 1 ≤ 13 from this ▸ Nat.succ_le_succ hps) (by decide)
  have NA := na_of2 (w := w) (a := a) (d := d) (vs := vs) (n := n1) (rest := (d, szDict w k t1 t2 n2) :: (P, oP) :: (Q, oQ) :: (l, listOf us.toArray nl) :: (L + 1, oC) :: (I, oI) :: tl) (N := nsub N3 (by (repeat' refine List.forall_mem_cons.mpr ⟨by k_mem, ?_⟩); intro p hp; first | (cases hp; done) | (repeat (first | exact hp | refine List.Mem.tail _ ?_)))) (List.forall_mem_cons.mpr ⟨acc_ne_cls rfl, List.forall_mem_cons.mpr ⟨acc_ne_tab tP.1, List.forall_mem_cons.mpr ⟨acc_ne_tab tQ.1, List.forall_mem_cons.mpr ⟨acc_ne_cls rfl, List.forall_mem_cons.mpr ⟨acc_ne_cell hC, List.forall_mem_cons.mpr ⟨acc_ne_cls hIc, fun p hp => acc_ne_cls (hv.tup p hp).1⟩⟩⟩⟩⟩⟩)
  k_steps
  try refine Stop.mk ?_
  rename Fr _ _ _ _ => F4
  have N4 := ‹News G L _ ((P, oP) :: _)›
  refine methK (f := .ref 54) (TT := "function") F4 GX (H N4) (by kernel_rfl) (by kernel_rfl) (by decide) (by decide) ?_
  k_steps
  try refine Stop.mk ?_
  refine (show wpAny _ _ (call (.ref 54) [.ref a]) _ _ _ from ?_)
  have N5 : News G L _ ((a, accObj d vs n1) :: (d, szDict w k t1 t2 n2) :: (P, oP) :: (Q, oQ) :: (l, listOf us.toArray nl) :: (L + 1, oC) :: (I, oI) :: tl) := nsub N4 (by (repeat' refine List.forall_mem_cons.mpr ⟨by k_mem, ?_⟩); intro p hp; first | (cases hp; done) | (repeat (first | exact hp | refine List.Mem.tail _ ?_)))
  refine popK F4 N5 (.head _) NA GX GT (r 1 (by decide)) (by rw [hv.len]; exact hl12) ?_ ?_
  · intro hv0 t6 h6 tk6 te te' F6 N6
    clear F4 N4 N5
    have hp0 : ps = [] := by
      have := hv.len
      rw [hv0] at this
      exact List.eq_nil_of_length_eq_zero this.symm
    have hu0 : us = [] := by
      have := hu.len
      rw [hp0] at this
      exact List.eq_nil_of_length_eq_zero this
    subst hv0 hp0 hu0
    k_steps
    refine Stop.mk ?_
    have N8 := ‹News G L _ (_ :: (_, listOf #[_] 0) :: _)›
    refine lenL (l := l) (us := []) ⟨_, (N8 (l, listOf #[] nl) (by simp)).1, rfl, nl, rfl⟩ rfl (Nat.zero_le _) ?_
    intro t9 k9
    k_steps
    refine Stop.mk ?_
    have N9 := ‹News G L _ (_ :: (_, listOf #[_] 0) :: _)›
    refine ne_tups (p := (Str.ofString "", Str.ofString "")) (by decide +kernel) (by decide +kernel) ⟨t6, te, te', rfl, _, (N9 (t6, tupO (Str.ofString "") te (Str.ofString "") te') (by simp)).1, rfl, 0, rfl⟩ ⟨_, _, _, rfl, _, (N9 _ (.tail _ (.tail _ (.head _)))).1, rfl, 0, rfl⟩ (Nat.lt_of_le_of_lt (Nat.add_le_add_left (by decide : 64 ≤ 90) units9) huu) ?_
    k_steps
    refine Stop.mk ?_
    have F10 := ‹Fr G L _ _›
    have N10 := ‹News G L _ (_ :: (_, listOf #[_] 0) :: _)›
    refine kmk_slice F10 N10 (its := #[]) ⟨_, (N10 (l, listOf #[] nl) (by simp)).1, rfl, nl, rfl⟩ .none (.int (-1) _) ?_ rfl (fun r => rfl) (by decide)
    intro D h10 F11 N11 lt10
    rw [pick_nil] at N11
    have N12 : News G L h10 ((L + 1, oC) :: (D, listOf ([] : List Value).toArray 0) :: (P, oP) :: (Q, oQ) :: (a, accObj d [] n1) :: (d, szDict w k t1 t2 n2) :: (I, oI) :: tl) := nsub N11 (by (repeat' refine List.forall_mem_cons.mpr ⟨by k_mem, ?_⟩); intro p hp; first | (cases hp; done) | (repeat (first | exact hp | refine List.Mem.tail _ ?_)))
    refine end_turn (w := w) F11 N12 hC hId tP tQ hv hu bare ⟨Nat.zero_le _, fun h => h, .inl rfl⟩ (by rfl) (by rfl) (by rfl) (by rfl) (by rfl) (by rfl) (by rfl) (by rfl) (by rfl)
  · intro vs' v hvs h6 tk6 n6 F6 N6
    clear F4 N4 N5
    obtain ⟨ps', p, rfl⟩ : ∃ ps' p, ps = ps' ++ [p] := by
      rcases List.eq_nil_or_concat ps with h | ⟨ps', p, h⟩
      · have := hv.len
        rw [hvs, h] at this
        simp at this
      · exact ⟨ps', p, by rw [h]; simp⟩
    obtain ⟨us', v2, rfl⟩ : ∃ us' v2, us = us' ++ [v2] := by
      rcases List.eq_nil_or_concat us with h | ⟨ps', p, h⟩
      · have := hu.len
        rw [h] at this
        simp at this
      · exact ⟨ps', p, by rw [h]; simp⟩
    subst hvs
    have hlen := hu.len
    have hps' : us'.length = ps'.length := by simp at hlen; exact hlen
    k_steps
    try refine Stop.mk ?_
    have N8 := ‹News G L _ (_ :: (_, listOf #[_] 0) :: _)›
    refine lenL (l := l) ⟨_, (N8 (l, listOf _ nl) (by simp)).1, rfl, nl, rfl⟩ hu.len hl12 ?_
    intro t9 k9
    k_steps
    try refine Stop.mk ?_
    rename_i h9 tk9 F9 N9
    have hit : ∀ q ∈ tl, h9.get? q.1 = some q.2 := fun q hq => (N9 q (by simp [hq])).1
    refine item_L (v := v2) ⟨_, (N9 _ (.head _)).1, rfl, _, rfl⟩ (by split <;> omega) (by split <;> omega) ?_ rfl ?_
    · have e : (if (((ps' ++ [p]).length : Int) - 1 > 0) then ((ps' ++ [p]).length : Int) - 1 else 0).toNat = us'.length := by
        rw [List.length_append, hps']
        simp
        split <;> omega
      rw [e]
      simp
    refine ne_tups (menu1_ok _ (mn p (by simp)).1) (menu2_ok _ (mn p (by simp)).2) (pair_last hv hit) (pair_last hu hit) (Nat.lt_of_le_of_lt (Nat.add_le_add_left (by decide : 64 ≤ 90) units9) huu) ?_
    k_steps
    try refine Stop.mk ?_
    refine kmk_slice F9 N9 (its := (us' ++ [v2]).toArray) ⟨_, (N9 (l, listOf (us' ++ [v2]).toArray nl) (by simp)).1, rfl, nl, rfl⟩ .none (.int (-1) _) ?_ rfl (fun r => rfl) ?_
    · intro D h10 F10 N10 lt10
      rw [pick_init] at N10
      have N11 : News G L h10 ((L + 1, oC) :: (D, listOf us'.toArray 0) :: (P, oP) :: (Q, oQ) :: (a, accObj d vs' n6) :: (d, szDict w k t1 t2 n2) :: (I, oI) :: tl) := nsub N10 (by (repeat' refine List.forall_mem_cons.mpr ⟨by k_mem, ?_⟩); intro p hp; first | (cases hp; done) | (repeat (first | exact hp | refine List.Mem.tail _ ?_)))
      refine end_turn (w := w) F10 N11 hC hId tP tQ hv.init hu.init bare ⟨by simp; omega, fun h q hq => h q (List.mem_append_left _ hq), .inl rfl⟩ (by rfl) (by rfl) (by rfl) (by rfl) (by rfl) (by rfl) (by rfl) (by rfl) (by rfl)
    · exact Nat.le_trans (Nat.le_succ _) hsz
end
end Mine
end

section
open PySem PySem.W PyProof.Rows PySem.Calls Builtin Builtin.ObjectAttr
set_option maxRecDepth 100000
set_option maxHeartbeats 4000000
namespace Mine
section
variable {w : World} {A : Around} {s : Shared} {L P Q I dl : Addr} {mg mb : Str → Option Value} {mean : ExcName → Option Value} {G : Heap} {E : Value → Shared → Prop} {ps : List (Str × Str)} {k : Int} {wv : Option Value} {oI : Obj} {QQ : Flow → Shared → Prop} {os : OsState} {dr : Drawn}
local macro_rules | `(tactic| walk_at "getMethod ref") => `(tactic| (k_here; refine stop1 ?_))
local macro_rules | `(tactic| walk_at "call ref") => `(tactic| (k_here; refine stop1 ?_))
local macro_rules | `(tactic| walk_at "storeName") => `(tactic| (k_here; (with_reducible show wpAny _ _ (storeName _ (PySem.Str.ofString "plain") _) _ _ _); refine stop1 ?_))
local macro_rules | `(tactic| walk_at "subscriptTail Name Slice ref ref") => `(tactic| (k_here; refine stop1 ?_))
local macro_rules | `(tactic| walk_at "compareOp NotEq ref ref") => `(tactic| (k_here; refine stop1 ?_))
theorem run_br3 {name qual : Str} {params : Arguments} {body : List Stmt} {scope : Scope} {dV kV doc pm ct oc cdv : Value} {an od : Option Addr} {osl : Array (Option Value)} {br1 br2 br3 more more2 : List Stmt} {tg it test test2 : PySem.Expr} {pp p1 p2 : Pos} {s1 s2 s3 : Stmt} {n c wt kd : Int} {tn tc tw tkd : Tok}
    {zI : Array Value} {a d l : Addr} {vs us : List Value} {tl : List (Addr × Obj)} {oP oQ oC : Obj} {n1 n2 nl : Nat} {tk t1 t2 : Tok} {u : Str → Option Value}
    (hk : (hd.heap_39 w.params).lookup 142 = some ⟨oc, od, .func (fnOf name qual params body scope dV kV doc pm an cdv ct), osl⟩) (hr : body.drop 2 = .For tg it (s1 :: s2 :: s3 :: .If test br1 [.If test2 br2 br3 p2] p1 :: more2) [] pp :: more)
    (GX : (hd.heap_39 w.params).In G) (GT : TopV mean mg mb G) (hroom : A.depth + 8 < recursionLimit) (huu : A.units + 90 < cLine) (hh : A.handled = none)
    (F3 : Fr G L s.heap (fun y => if y = Str.ofString "cut" then some (.int c tc) else if y = Str.ofString "what" then some (.int wt tw) else if y = Str.ofString "kind" then some (.int kd tkd) else if y = Str.ofString "deed" then some (.int n tn) else mapR a dl k tk wv u y)) (N3 : News G L s.heap ((P, oP) :: (Q, oQ) :: (a, accObj d vs n1) :: (d, szDict w k t1 t2 n2) :: (l, listOf us.toArray nl) :: (L + 1, oC) :: (I, oI) :: tl)) (hC : oC.data = .cell (some (.ref l)))
    (hIc : oI.cls = .type "list_iterator") (hId : oI.data = .fields zI) (tP : TabOk w 60 P oP) (tQ : TabOk w 67 Q oQ) (hv : PrsL tl vs ps) (hu : PrsL tl us ps) (bare : AllBare s.gens)
    (hps : ps.length ≤ 12) (mn : Mn ps) (hk0 : 0 ≤ k ∧ k ≤ 1000) (hc0 : 0 ≤ c) (hc4 : c < 4) (hw0 : 0 ≤ wt) (hw1 : wt ≤ 1000000) (hos : s.os = os) (hdr : s.drawn = dr) (hkd : kd = 4 ∨ kd = 5) :
    wpAny (model PySem.Challenge.rw_nb0052_01.row.prog w) A (execs br3 (envOfC qual scope L 142 cdv)) (NJ (JI w G L P Q I oI dl os dr ps k wt)) E s := by
  obtain ⟨hd9, dp9, fr9, gd9, units9⟩ := A
  cases hh
  obtain ⟨h2, g2, d2, tk2, o2⟩ := s
  (try dsimp only at hos)
  (try dsimp only at hdr)
  subst hos hdr
  revert hk; k_fill; intro hk
  k_dflt (refine' (fun q => ?_ : _ → _) (key_of hk ?hk9); (case hk9 => k_is))
  obtain ⟨rfl, rfl, rfl, rfl⟩ := q
  clear hk
  change _ :: _ = _ at hr
  cases hr
  dsimp only [mapR] at F3 N3

  have r : ∀ n, n ≤ 8 → (Around.mk none dp9 fr9 gd9 units9).depth + n < recursionLimit := fun n hn => Nat.lt_of_le_of_lt (Nat.add_le_add_left hn dp9) hroom
  have r0 : (Around.mk none dp9 fr9 gd9 units9).depth < recursionLimit := Nat.lt_of_le_of_lt (Nat.le_add_right dp9 8) hroom
  have sm' := mn_small mn
  have hl12 : ps.length ≤ 1000 := Nat.le_trans hps (by decide)
  have H : ∀ {hh : Heap} {x y z : Obj}, News G L hh ((P, x) :: (Q, y) :: (a, accObj d vs n1) :: (d, szDict w k t1 t2 n2) :: (l, listOf us.toArray nl) :: (L + 1, z) :: (I, oI) :: tl) → Hold w hh a d vs k ps := fun N => hold_led N (.tail _ (.tail _ (.head _))) (.tail _ (.tail _ (.tail _ (.head _)))) hv (fun q hq => .tail _ (.tail _ (.tail _ (.tail _ (.tail _ (.tail _ (.tail _ hq))))))) hl12 sm' hk0
  have hsz : us.toArray.size ≤ sizeLine := by
    have := hu.len
    rw [List.size_toArray]
    exact Nat.le_trans (show us.length ≤ 12 from this ▸ hps) (by decide)
  have NA := na_of2 (w := w) (a := a) (d := d) (vs := vs) (n := n1) (rest := (d, szDict w k t1 t2 n2) :: (P, oP) :: (Q, oQ) :: (l, listOf us.toArray nl) :: (L + 1, oC) :: (I, oI) :: tl) (N := nsub N3 (by (repeat' refine List.forall_mem_cons.mpr ⟨by k_mem, ?_⟩); intro p hp; first | (cases hp; done) | (repeat (first | exact hp | refine List.Mem.tail _ ?_)))) (List.forall_mem_cons.mpr ⟨acc_ne_cls rfl, List.forall_mem_cons.mpr ⟨acc_ne_tab tP.1, List.forall_mem_cons.mpr ⟨acc_ne_tab tQ.1, List.forall_mem_cons.mpr ⟨acc_ne_cls rfl, List.forall_mem_cons.mpr ⟨acc_ne_cell hC, List.forall_mem_cons.mpr ⟨acc_ne_cls hIc, fun p hp => acc_ne_cls (hv.tup p hp).1⟩⟩⟩⟩⟩⟩)
  k_steps
  try refine Stop.mk ?_
  refine methK (f := .ref 46) (TT := "function") F3 GX (H N3) (by kernel_rfl) (by kernel_rfl) (by decide) (by decide) ?_
  k_steps
  try refine Stop.mk ?_
  refine (show wpAny _ _ (call (.ref 46) [.ref a, .int c tc]) _ _ _ from ?_)
  have N5 : News G L _ ((a, accObj d vs n1) :: (d, szDict w k t1 t2 n2) :: (P, oP) :: (Q, oQ) :: (l, listOf us.toArray nl) :: (L + 1, oC) :: (I, oI) :: tl) := nsub N3 (by (repeat' refine List.forall_mem_cons.mpr ⟨by k_mem, ?_⟩); intro p hp; first | (cases hp; done) | (repeat (first | exact hp | refine List.Mem.tail _ ?_)))
  refine popfK F3 N5 (.head _) NA GX GT r0 (by rw [hv.len]; exact hl12) hc0 (Int.le_trans (Int.le_of_lt hc4) (by decide)) ?_
  intro D6 h6 tk6 n6 F6 N6 hDa hDn
  clear N5 N3 F3
  k_steps
  try refine Stop.mk ?_
  rename_i h7 F7 N7
  have hpD := hv.drop c.toNat
  have huD := hu.drop c.toNat
  refine kmk_slice F7 N7 (its := us.toArray) ⟨_, (N7 (l, listOf us.toArray nl) (by simp)).1, rfl, nl, rfl⟩ (.int c tc) .none ?_ rfl (fun r => rfl) hsz
  intro D8 h8 F8 N8 lt8
  rw [pick_from us hc0] at N8
  clear F7 N7 lt8
  have hit : ∀ q ∈ tl, h8.get? q.1 = some q.2 := fun q hq => (N8 q (by simp [hq])).1
  refine ne_lists (us := vs.drop c.toNat) (us' := us.drop c.toNat) (mn_sok (mn_drop mn c.toNat)) ⟨_, (N8 _ (.tail _ (.head _))).1, rfl, _, rfl⟩ (hpD.prs hit) ⟨_, (N8 _ (.head _)).1, rfl, _, rfl⟩ (huD.prs hit) (Nat.lt_of_le_of_lt (Nat.add_le_add_left (by decide : 64 ≤ 90) units9) huu) ?_
  k_steps
  try refine Stop.mk ?_
  refine kmk_slice F8 N8 (its := us.toArray) ⟨_, (N8 (l, listOf us.toArray nl) (by simp)).1, rfl, nl, rfl⟩ .none (.int c tc) ?_ rfl (fun r => rfl) hsz
  intro D9 h9 F9 N9 lt9
  rw [pick_to us hc0] at N9
  clear F8 N8 lt9
  have hvT := hv.take c.toNat
  have huT := hu.take c.toNat
  have N10 : News G L h9 ((L + 1, oC) :: (D9, listOf (us.take c.toNat).toArray 0) :: (P, oP) :: (Q, oQ) :: (a, accObj d (vs.take c.toNat) n6) :: (d, szDict w k t1 t2 n2) :: (D6, listOf (vs.drop c.toNat).toArray 0) :: (I, oI) :: tl) := nsub N9 (by (repeat' refine List.forall_mem_cons.mpr ⟨by k_mem, ?_⟩); intro p hp; first | (cases hp; done) | (repeat (first | exact hp | refine List.Mem.tail _ ?_)))
  clear N9
  refine store_C F9 N10 hC (nc_of N10 hC ?_) rfl rfl rfl ?_
  · refine List.forall_mem_cons.mpr ⟨?_, List.forall_mem_cons.mpr ⟨?_, List.forall_mem_cons.mpr ⟨?_, List.forall_mem_cons.mpr ⟨?_, List.forall_mem_cons.mpr ⟨?_, List.forall_mem_cons.mpr ⟨?_, List.forall_mem_cons.mpr ⟨?_, fun p hp => ?_⟩⟩⟩⟩⟩⟩⟩
    · exact nc rfl
    · obtain ⟨z, e⟩ := tP.1; rw [e]; exact nc rfl
    · obtain ⟨z, e⟩ := tQ.1; rw [e]; exact nc rfl
    · exact nc rfl
    · exact nc rfl
    · exact nc rfl
    · rw [hId]; exact nc rfl
    · obtain ⟨z, n, e⟩ := (hv.tup p hp).2; rw [e]; exact nc rfl
  intro h11 oC' F11 N11 d11
  clear F9 N10
  rcases hkd with rfl | rfl
  · k_steps
    try refine Stop.mk ?_
    refine ⟨rfl, ps.take c.toNat, k, tw, ⟨by rw [List.length_take]; exact Nat.le_succ_of_le (Nat.min_le_right _ _), fun h => mn_take h _, .inl rfl⟩, RS.mk a d D9 (vs.take c.toNat) (us.take c.toNat) tl oP oQ oC' n6 n2 0 _ t1 t2 _ (fr_mapR F11 rfl rfl rfl rfl) (nsub N11 (by (repeat' refine List.forall_mem_cons.mpr ⟨by k_mem, ?_⟩); intro p hp; first | (cases hp; done) | (repeat (first | exact hp | refine List.Mem.tail _ ?_)))) d11 tP tQ hvT huT bare rfl rfl⟩
  · k_steps
    try refine Stop.mk ?_
    have H2 : ∀ {hh : Heap} {x y z : Obj} {l' : Addr} {zs : Obj}, News G L hh ((L + 1, z) :: (l', zs) :: (P, x) :: (Q, y) :: (a, accObj d (vs.take c.toNat) n6) :: (d, szDict w k t1 t2 n2) :: (D6, listOf (vs.drop c.toNat).toArray 0) :: (I, oI) :: tl) → Hold w hh a d (vs.take c.toNat) k (ps.take c.toNat) := fun N => hold_led N (.tail _ (.tail _ (.tail _ (.tail _ (.head _))))) (.tail _ (.tail _ (.tail _ (.tail _ (.tail _ (.head _)))))) hvT (fun q hq => .tail _ (.tail _ (.tail _ (.tail _ (.tail _ (.tail _ (.tail _ (.tail _ hq)))))))) (by rw [List.length_take]; exact Nat.le_trans (Nat.min_le_right _ _) hl12) (mn_small (mn_take mn c.toNat)) hk0
    refine methK (f := .ref 76) (TT := "function") F11 GX (H2 N11) (by kernel_rfl) (by kernel_rfl) (by decide) (by decide) ?_
    k_steps
    try refine Stop.mk ?_
    refine (show wpAny _ _ (call (.ref 76) [.ref a, .ref D6]) _ _ _ from ?_)
    have N12 : News G L h11 ((a, accObj d (vs.take c.toNat) n6) :: (d, szDict w k t1 t2 n2) :: (D6, listOf (vs.drop c.toNat).toArray 0) :: (P, oP) :: (Q, oQ) :: (L + 1, oC') :: (I, oI) :: tl) := nsub N11 (by (repeat' refine List.forall_mem_cons.mpr ⟨by k_mem, ?_⟩); intro p hp; first | (cases hp; done) | (repeat (first | exact hp | refine List.Mem.tail _ ?_)))
    have q1 := na_of2 (w := w) N12 (List.forall_mem_cons.mpr ⟨acc_ne_cls rfl, List.forall_mem_cons.mpr ⟨acc_ne_cls rfl, List.forall_mem_cons.mpr ⟨acc_ne_tab tP.1, List.forall_mem_cons.mpr ⟨acc_ne_tab tQ.1, List.forall_mem_cons.mpr ⟨acc_ne_cell d11, List.forall_mem_cons.mpr ⟨acc_ne_cls hIc, fun p hp => acc_ne_cls (hv.tup p hp).1⟩⟩⟩⟩⟩⟩)
    have q2 := nd_of2 (w := w) (nsub N12 fun p hp => .tail _ hp) (List.forall_mem_cons.mpr ⟨dict_ne_cls rfl (by decide), List.forall_mem_cons.mpr ⟨dict_ne_tab tP.1, List.forall_mem_cons.mpr ⟨dict_ne_tab tQ.1, List.forall_mem_cons.mpr ⟨dict_ne_cell d11, List.forall_mem_cons.mpr ⟨dict_ne_cls hIc (by decide), fun p hp => dict_ne_cls (hv.tup p hp).1 (by decide)⟩⟩⟩⟩⟩)
    have hna : ∀ p ∈ (D6, listOf (vs.drop c.toNat).toArray 0) :: (P, oP) :: (Q, oQ) :: (L + 1, oC') :: (I, oI) :: tl, p.1 ≠ a ∧ p.1 ≠ d := fun p hp => ⟨q1 p (.tail _ hp), q2 p hp⟩
    have had : a ≠ d := Ne.symm (q1 (d, szDict w k t1 t2 n2) (.head _))
    refine resetK F11 N12 (.head _) hna had GX GT r0 (by rw [List.length_take, hv.len]; exact Nat.le_trans (Nat.min_le_right _ _) hl12) (by rw [List.length_drop, hv.len]; exact Nat.le_trans (Nat.sub_le _ _) hl12) ?_
    intro h13 tk13 n13 n14 t13 t14 F13 N13
    clear N11 N12 F11
    have hszD : (vs.drop c.toNat).toArray.size ≤ sizeLine := by
      rw [List.size_toArray, List.length_drop, hv.len]
      exact Nat.le_trans (show ps.length - c.toNat ≤ 12 from Nat.le_trans (Nat.sub_le _ _) hps) (by decide)
    k_steps
    try refine Stop.mk ?_
    rename_i D14 c14 h14 F14 N14 lt14
    have N15 : News G L h14 ((L + 1, oC') :: (D14, listOf (vs.drop c.toNat).toArray c14) :: (P, oP) :: (Q, oQ) :: (a, accObj d (vs.drop c.toNat) n13) :: (d, szDict w 0 t13 t14 n14) :: (I, oI) :: tl) := nsub N14 (by (repeat' refine List.forall_mem_cons.mpr ⟨by k_mem, ?_⟩); intro p hp; first | (cases hp; done) | (repeat (first | exact hp | refine List.Mem.tail _ ?_)))
    clear N14 lt14
    refine store_C F14 N15 d11 (nc_of N15 d11 (plain_nc tP tQ hId hv)) rfl rfl rfl ?_
    intro h16 oC2 F16 N16 d16
    clear F14 N15
    k_steps
    try refine Stop.mk ?_
    rename_i h17 F17 N17
    refine ⟨rfl, ps.drop c.toNat, 0, tw, ⟨by rw [List.length_drop]; exact Nat.le_succ_of_le (Nat.sub_le _ _), fun h => mn_drop h _, .inr rfl⟩, RS.mk a d D14 (vs.drop c.toNat) (vs.drop c.toNat) tl oP oQ oC2 n13 n14 c14 _ t13 t14 _ (fr_mapR F17 rfl rfl rfl rfl) (nsub N17 (by (repeat' refine List.forall_mem_cons.mpr ⟨by k_mem, ?_⟩); intro p hp; first | (cases hp; done) | (repeat (first | exact hp | refine List.Mem.tail _ ?_)))) d16 tP tQ hpD hpD bare rfl rfl⟩
end
end Mine
end

section
open PySem PySem.W PyProof.Rows PySem.Calls Builtin Builtin.ObjectAttr
set_option maxRecDepth 100000
set_option maxHeartbeats 4000000
namespace Mine
section
variable {w : World} {A : Around} {s s' : Shared} {L P Q I dl : Addr} {mg mb m : Str → Option Value} {mean : ExcName → Option Value} {G : Heap} {E : Value → Shared → Prop} {ps : List (Str × Str)} {k : Int} {wv : Option Value} {oI oP oQ : Obj} {QQ : Flow → Shared → Prop} {news : List (Addr × Obj)}
theorem menu_good : (∀ x ∈ menu1, ∀ c ∈ cl x, c ∈ al) ∧ (∀ x ∈ menu2, ∀ c ∈ cl x, c ∈ al) := by decide +kernel
theorem mn_good {ps : List (Str × Str)} (h : Mn ps) : Good (cat ps) := by
  intro c hc
  rw [cat_cl] at hc
  obtain ⟨l, hl, hc⟩ := List.mem_flatten.mp hc
  obtain ⟨p, hp, rfl⟩ := List.mem_map.mp hl
  rcases List.mem_append.mp hc with h1 | h1
  · exact menu_good.1 _ (h p hp).1 c h1
  · exact menu_good.2 _ (h p hp).2 c h1
theorem Trn.kb {ps ps' : List (Str × Str)} {k k' : Int} (T : Trn ps k ps' k') (h : 0 ≤ k ∧ k ≤ 1000) : 0 ≤ k' ∧ k' ≤ 1000 := by rcases T.k with h1 | h1 <;> rw [h1]; exact h; decide
theorem div6 {n : Int} (h0 : 0 ≤ n) (h1 : n < 1000000) : 0 ≤ n.fdiv 6 ∧ n.fdiv 6 ≤ 1000000 := by rw [Int.fdiv_eq_ediv_of_nonneg _ (by decide)]; omega
theorem kd45 {n : Int} (h1 : ¬ n.fmod 6 < 3) (h2 : n.fmod 6 ≠ 3) : n.fmod 6 = 4 ∨ n.fmod 6 = 5 := by
  have h3 : n.fmod 6 < 6 := Int.fmod_lt_of_pos _ (by decide)
  omega
theorem mn_lens : ∀ {ps : List (Str × Str)}, Mn ps → lens ps ≤ 6 * ps.length
  | [], _ => Nat.le_refl _
  | p :: ps, h => by
    have ih := mn_lens (ps := ps) fun q hq => h q (List.mem_cons_of_mem _ hq)
    have h1 := menu1_len _ (h p List.mem_cons_self).1
    have h2 := menu2_len _ (h p List.mem_cons_self).2
    unfold lens at ih ⊢
    simp only [List.map_cons, List.sum_cons, List.length_cons]
    omega
theorem mn_lens1000 {ps : List (Str × Str)} (h : Mn ps) (hl : ps.length ≤ 13) : lens ps ≤ 1000 := Nat.le_trans (mn_lens h) (Nat.le_trans (Nat.mul_le_mul_left 6 hl) (by decide))
def marks : List Str := [Str.ofString " ", Str.ofString "a", Str.ofString "aa"]
theorem marks_ok : ∀ x ∈ marks, 1 ≤ x.length ∧ x.length ≤ 2 ∧ Builtin.Str.strKind x = 1 := by decide +kernel
theorem aft_of2 (F : Fr G L s.heap m) (N : News G L s.heap ((P, oP) :: (Q, oQ) :: news)) (hn : ∀ p ∈ news, p.1 ≠ P ∧ p.1 ≠ Q) (W : Wd w mean mg mb G P Q s') (S : Stp P Q s s') : Aft w G L m P Q news s s' := by
  obtain ⟨z1, c1⟩ := W.cP
  obtain ⟨z2, c2⟩ := W.cQ
  obtain ⟨q1, hq1⟩ : ∃ q, (KF w).lookup 60 = some q := ⟨_, rfl⟩
  obtain ⟨q2, hq2⟩ : ∃ q, (KF w).lookup 67 = some q := ⟨_, rfl⟩
  obtain ⟨o1, e1, t1⟩ := tabOk_of hq1 W.X c1
  obtain ⟨o2, e2, t2⟩ := tabOk_of hq2 W.X c2
  have NP := N _ (.head _)
  have NQ := N _ (.tail _ (.head _))
  refine ⟨⟨F.ns.at' fun o e => S.keep _ _ (Ne.symm NP.2.1) (Ne.symm NQ.2.1) e, W.g.keep, F.above⟩, ⟨o1, o2, t1, t2, fun p hp => ?_⟩, W.bare, S.os, S.drawn⟩
  rcases List.mem_cons.mp hp with rfl | hp
  · exact ⟨e1, NP.2⟩
  rcases List.mem_cons.mp hp with rfl | hp
  · exact ⟨e2, NQ.2⟩
  · have Np := N p (.tail _ (.tail _ hp))
    exact ⟨S.keep _ _ (hn p hp).1 (hn p hp).2 Np.1, Np.2⟩
theorem tab_ne {h : Heap} {c P b : Addr} {o oP : Obj} (X : (KF w).In h) (t : TabOk w c P oP) (e : h.get? P = some oP) (eb : h.get? b = some o) (hc : o.cls = .type "list_iterator" ∨ ∀ z, o.data ≠ .fields z) : b ≠ P := by
  rintro rfl
  have := Option.some.inj (e.symm.trans eb)
  subst this
  rcases hc with hc | hc
  · obtain ⟨z, y⟩ := t.2 h X e
    have := Option.some.inj (e.symm.trans y.2.1)
    rw [this] at hc
    cases hc
  · obtain ⟨z, hz⟩ := t.1
    exact hc z hz
local macro_rules | `(tactic| walk_at "call ref") => `(tactic| (k_here; refine stop1 ?_))
theorem run_turn {name qual : Str} {params : Arguments} {body : List Stmt} {scope : Scope} {dV kV doc pm ct oc cdv : Value} {an od : Option Addr} {osl : Array (Option Value)} {rest more : List Stmt} {tg it : PySem.Expr} {pp : Pos} {n : Int} {tn : Tok}
    {zI : Array Value} {a d l : Addr} {vs us : List Value} {tl : List (Addr × Obj)} {oC : Obj} {n1 n2 nl : Nat} {tk t1 t2 : Tok} {u : Str → Option Value}
    (hk : (hd.heap_39 w.params).lookup 142 = some ⟨oc, od, .func (fnOf name qual params body scope dV kV doc pm an cdv ct), osl⟩) (hr : body.drop 2 = .For tg it rest [] pp :: more)
    (GX : (hd.heap_39 w.params).In G) (GT : TopV mean mg mb G) (hroom : A.depth + 9 < recursionLimit) (huu : A.units + 90 < cLine) (hh : A.handled = none)
    (F3 : Fr G L s.heap (fun y => if y = Str.ofString "deed" then some (.int n tn) else mapR a dl k tk wv u y)) (N3 : News G L s.heap ((P, oP) :: (Q, oQ) :: (a, accObj d vs n1) :: (d, szDict w k t1 t2 n2) :: (l, listOf us.toArray nl) :: (L + 1, oC) :: (I, oI) :: tl)) (hC : oC.data = .cell (some (.ref l)))
    (hIc : oI.cls = .type "list_iterator") (hId : oI.data = .fields zI) (tP : TabOk w 60 P oP) (tQ : TabOk w 67 Q oQ) (ne : P ≠ Q) (hv : PrsL tl vs ps) (hu : PrsL tl us ps) (bare : AllBare s.gens)
    (hn0 : 0 ≤ n) (hn1 : n < 1000000) (hps : ps.length ≤ 12) (mn : Mn ps) (hk0 : 0 ≤ k ∧ k ≤ 1000)
    (h : ∀ s' ps' k' wv', Trn ps k ps' k' → RS w G L P Q I oI dl s.os s.drawn ps' k' wv' s' → QQ .next s') :
    wpAny (model PySem.Challenge.rw_nb0052_01.row.prog w) A (execs rest (envOfC qual scope L 142 cdv)) QQ E s := by
  obtain ⟨hd9, dp9, fr9, gd9, units9⟩ := A
  cases hh
  obtain ⟨h2, g2, d2, tk2, o2⟩ := s
  revert hk; k_fill; intro hk
  k_dflt (refine' (fun q => ?_ : _ → _) (key_of hk ?hk9); (case hk9 => k_is))
  obtain ⟨rfl, rfl, rfl, rfl⟩ := q
  change _ :: _ = _ at hr
  cases hr
  dsimp only [mapR] at F3 N3
  iterate 21 walk1
  have F4 := ‹Fr G L _ _›
  have N4 := ‹News G L _ ((P, oP) :: _)›
  have hroom' : (Around.mk none dp9 fr9 gd9 units9).depth + 8 < recursionLimit := Nat.lt_of_succ_lt hroom
  have hw0 := (div6 hn0 hn1).1
  have hw1 := (div6 hn0 hn1).2
  have hc0 : 0 ≤ (n.fdiv 6).fmod 4 := Int.fmod_nonneg_of_pos _ (by decide)
  have hc4 : (n.fdiv 6).fmod 4 < 4 := Int.fmod_lt_of_pos _ (by decide)
  have hk6 : 0 ≤ n.fmod 6 := Int.fmod_nonneg_of_pos _ (by decide)
  have hk7 : n.fmod 6 < 6 := Int.fmod_lt_of_pos _ (by decide)
  refine joinJ (J := JI w G L P Q I oI dl o2 d2 ps k (n.fdiv 6)) ?_ ?_
  · by_cases hlt : n.fmod 6 < 3
    · iterate 7 walk1
      k_dflt (refine' run_br1 ?hk0 ?hr0 GX GT hroom' huu rfl F4 N4 hC hIc hId tP tQ hv hu bare hps mn hk0 hc0 hc4 hw0 hw1 rfl rfl; (case hk0 => k_is); (case hr0 => exact rfl))
    · iterate 16 walk1
      · refine wpAny_mono (Q := NJ (JI w G L P Q I oI dl o2 d2 ps k (n.fdiv 6))) (E := E) ?_ (fun f s' h => by obtain ⟨rfl, j⟩ := h; exact wpAny_execs_nil ⟨rfl, j⟩) fun _ _ e => e
        k_dflt (refine' run_br2 ?hk1 ?hr1 GX GT hroom' huu rfl F4 N4 hC hIc hId tP tQ hv hu bare hps mn hk0 hc0 hc4 hw0 hw1 rfl rfl; (case hk1 => k_is); (case hr1 => exact rfl))
      · refine wpAny_mono (Q := NJ (JI w G L P Q I oI dl o2 d2 ps k (n.fdiv 6))) (E := E) ?_ (fun f s' h => by obtain ⟨rfl, j⟩ := h; exact wpAny_execs_nil ⟨rfl, j⟩) fun _ _ e => e
        k_dflt (refine' run_br3 ?hk2 ?hr2 GX GT hroom' huu rfl F4 N4 hC hIc hId tP tQ hv hu bare hps mn hk0 hc0 hc4 hw0 hw1 rfl rfl (kd45 hlt (by assumption)); (case hk2 => k_is); (case hr2 => exact rfl))
  · rintro s5 ⟨ps5, k5, tw5, T5, R5⟩
    obtain ⟨a5, d5, l5, vs5, us5, tl5, oP5, oQ5, oC5, n15, n25, nl5, tk5, t15, t25, u5, F5, N5, hC5, tP5, tQ5, hv5, hu5, bare5, hos5, hdr5⟩ := R5
    have mn5 := T5.mn mn
    have hk5 := T5.kb hk0
    have hps5 : ps5.length ≤ 13 := Nat.le_trans T5.len (Nat.succ_le_succ hps)
    clear F4 N4 hv hu tP tQ bare hC
    obtain ⟨h5, g5, dr5, tk6, o5⟩ := s5
    (try dsimp only at F5)
    (try dsimp only at N5)
    (try dsimp only at bare5)
    (try dsimp only at hos5)
    (try dsimp only at hdr5)
    (try dsimp only [mapR] at F5)
    subst hos5 hdr5
    k_with "table" => skip
    k_steps
    rename_i l7 h7 F7 N7 lt7 tm ltm
    have ltm' : (((n.fdiv 6).fdiv 5).fmod 3).toNat < marks.length := ltm
    have hm := marks_ok _ (getD_mem (d := Str.empty) ltm')
    have N8 : News G L h7 ((P, oP5) :: (Q, oQ5) :: (a5, accObj d5 vs5 n15) :: (d5, szDict w k5 t15 t25 n25) :: (l5, listOf us5.toArray nl5) :: (L + 1, oC5) :: (I, oI) :: tl5) := nsub N7 fun p hp => .tail _ hp
    clear N7 lt7
    have hn8 : ∀ p ∈ (a5, accObj d5 vs5 n15) :: (d5, szDict w k5 t15 t25 n25) :: (l5, listOf us5.toArray nl5) :: (L + 1, oC5) :: (I, oI) :: tl5, p.1 ≠ P ∧ p.1 ≠ Q := by
      have X7 := GX.keeps F7.keep
      intro p hp
      have ep := (N8 p (.tail _ (.tail _ hp))).1
      have hd : p.2.cls = .type "list_iterator" ∨ ∀ z, p.2.data ≠ .fields z := by
        simp only [List.mem_cons] at hp
        rcases hp with rfl | rfl | rfl | rfl | rfl | hp
        · exact .inr (nf rfl)
        · exact .inr (nf rfl)
        · exact .inr (nf rfl)
        · exact .inr fun z e => by rw [hC5] at e; cases e
        · exact .inl hIc
        · obtain ⟨z, n, e⟩ := (hv5.tup p hp).2
          exact .inr fun y e' => by rw [e] at e'; cases e'
      exact ⟨tab_ne X7 tP5 (N8 _ (.head _)).1 ep hd, tab_ne X7 tQ5 (N8 _ (.tail _ (.head _))).1 ep hd⟩
    have hg5 := mn_good mn5
    have hl5 := mn_lens1000 mn5 hps5
    have hit5 : ∀ q ∈ tl5, h7.get? q.1 = some q.2 := fun q hq => (N8 q (by simp [hq])).1
    have x5 : Hold w h7 a5 d5 vs5 k5 ps5 := hold_led N8 (.tail _ (.tail _ (.head _))) (.tail _ (.tail _ (.tail _ (.head _)))) hv5 (fun q hq => .tail _ (.tail _ (.tail _ (.tail _ (.tail _ (.tail _ (.tail _ hq))))))) (Nat.le_trans hps5 (by decide)) (mn_small mn5) hk5
    refine Stop.mk ?_
    refine wpAny_call (looks_wd (wd_of F7 GX GT N8 (.head _) (.tail _ (.head _)) tP5 tQ5 ne bare5) (Nat.lt_of_le_of_lt (Nat.add_le_add_left (by decide : 6 ≤ 9) dp9) hroom) (Nat.lt_of_le_of_lt (Nat.add_le_add_left (by decide : 20 ≤ 90) units9) huu) rfl x5 ⟨_, (N8 _ (.tail _ (.tail _ (.tail _ (.tail _ (.head _)))))).1, rfl, _, rfl⟩ (hu5.prs hit5) hl5 (cat_len ps5) hg5 hm.1 hm.2.1 (words_cap hg5) (gr_cap hg5 hm.1 hm.2.2) (only_cap hg5) fun s9 W9 S9 => ?_)
    obtain ⟨F9, ⟨oP9, oQ9, tP9, tQ9, N9⟩, b9, os9, dr9⟩ := aft_of2 F7 N8 hn8 W9 S9
    obtain ⟨h9, g9, dr10, tk9, o9⟩ := s9
    (try dsimp only at F9)
    (try dsimp only at N9)
    (try dsimp only at b9)
    (try dsimp only at os9)
    (try dsimp only at dr9)
    clear F7 N8 W9 S9
    k_steps
    exact h _ ps5 k5 _ T5 (RS.mk a5 d5 l5 vs5 us5 tl5 oP9 oQ9 oC5 n15 n25 nl5 tk5 t15 t25 u5 F9 N9 hC5 tP9 tQ9 hv5 hu5 b9 os9 dr9)
end
end Mine
end

section
open PySem PySem.W PyProof.Rows PySem.Calls Builtin Builtin.ObjectAttr
set_option maxRecDepth 100000
set_option maxHeartbeats 4000000
namespace Mine
section
variable {w : World} {A : Around} {s : Shared} {P Q : Addr} {mg mb : Str → Option Value} {mean : ExcName → Option Value} {G : Heap} {E : Value → Shared → Prop}
theorem comp_none {elt iter c : PySem.Expr} {x : Str} {px : Pos} {scope : Scope} {cl : List (Str × Addr)} {pos : Pos} {env : Env} {QQ : Value → Shared → Prop} (hh : A.handled = none)
    (hclos : closureFor scope env = pure cl) (hcell : ∀ y ∈ scope.names, y.2 ≠ .cell) (hkind : scope.kind = .function) (hnames : ∀ y ∈ scope.names, y.2 = .local → scope.names.lookup y.1 = some .local) (hx : scope.names.lookup x = some .local)
    (h : wpAny (model PG w) A (eval iter env) (fun xv s₁ => ∃ r t u v, ∃ n : Nat, xv = .ref r ∧ IsRange s₁.heap r 0 n 1 t u v ∧ n ≤ 1000 ∧ Wd w mean mg mb G P Q s₁ ∧
      (∀ (i : Nat) C s' m' t' E', i < n → Wd w mean mg mb G P Q s' → Stp P Q s₁ s' → s'.heap.Ns C m' → m' x = some (.int i t') →
        wpAny (model PG w) A (isTrue c (compEnvC scope cl C env) (eval c (compEnvC scope cl C env))) (fun ok s'' => ok = false ∧ Wd w mean mg mb G P Q s'' ∧ Stp P Q s' s'') E' s') ∧
      (∀ D s', Wd w mean mg mb G P Q s' → Stp P Q s₁ s' → s'.heap.get? D = some (LCg.lst []) → s₁.heap.get? D = none → QQ (.ref D) s')) E s)
    (hs : ∀ x, foldedSetIterable iter env x = pure x) :
    wpAny (model PG w) A (eval (.ListComp elt [⟨.Name x px, iter, [c], 0⟩] scope pos) env) QQ E s := by
  rw [eval_ListComp]
  refine wpAny_comprehension_free (use := none) rfl hs hclos hkind hnames (wpAny_mono h (fun xv s₁ h₁ => ?_) fun _ _ e => e)
  obtain ⟨r, t, u, v, n, rfl, hr, hn, W, turn, fin⟩ := h₁
  have hsm : Builtin.Range.small 0 n 1 = true := small_one (by decide) (by decide) (by omega) (by omega)
  have hrs : Builtin.Range.rangeSize 0 n 1 = ((n : Nat) : Int) := by
    unfold Builtin.Range.rangeSize
    simp
    omega
  refine wpAny_pyIter_range hr hsm ?_
  rw [hrs]
  refine wpAny_newObj_type (wpAny_newFunctionEnv hcell (by intro y hy; simp at hy) (fun h₁ hns₁ hsb₁ => ?_) hkind)
  dsimp only at hns₁ hsb₁ ⊢
  generalize hI : s₁.heap.push { cls := .type "range_iterator", data := .fields #[rawInt 0, rawInt n, rawInt 1] } = H1 at hns₁ hsb₁ ⊢
  generalize hH2 : H1.push { cls := .type "list", dict := none, data := .seq ([] : List Value).toArray } = H2 at hns₁ hsb₁ ⊢
  have z1 : H1.objs.size = s₁.heap.objs.size + 1 := by rw [← hI, Heap.size_push]
  have z2 : H2.objs.size = s₁.heap.objs.size + 2 := by rw [← hH2, Heap.size_push, z1]
  have IC : s₁.heap.objs.size ≠ H2.objs.size := z2 ▸ Nat.ne_of_lt (Nat.lt_add_of_pos_right (by decide))
  have DC : H1.objs.size ≠ H2.objs.size := by rw [z1, z2]; exact Nat.ne_of_lt (Nat.lt_succ_self _)
  have ID : s₁.heap.objs.size ≠ H1.objs.size := z1 ▸ Nat.ne_of_lt (Nat.lt_succ_self _)
  obtain ⟨oP, oQ, _, _, eP, eQ⟩ := led_wd W
  have lP : P < s₁.heap.objs.size := Heap.lt_size eP
  have lQ : Q < s₁.heap.objs.size := Heap.lt_size eQ
  have nP : ∀ b, s₁.heap.objs.size ≤ b → b ≠ P ∧ b ≠ Q := fun b hb => ⟨Ne.symm (Nat.ne_of_lt (Nat.lt_of_lt_of_le lP hb)), Ne.symm (Nat.ne_of_lt (Nat.lt_of_lt_of_le lQ hb))⟩
  have lI : s₁.heap.objs.size ≤ s₁.heap.objs.size := Nat.le_refl _
  have lD : s₁.heap.objs.size ≤ H1.objs.size := by rw [z1]; exact Nat.le_succ _
  have lC : s₁.heap.objs.size ≤ H2.objs.size := by rw [z2]; exact Nat.le_add_right _ 2
  have old : ∀ b o, s₁.heap.get? b = some o → h₁.get? b = some o := fun b o e => by
    have lb := Heap.lt_size e
    refine hsb₁.extBut b o (Nat.ne_of_lt (Nat.lt_of_lt_of_le lb lC)) (Heap.get?_push_of_some _ ?_)
    rw [← hH2]
    refine Heap.get?_push_of_some _ ?_
    rw [← hI]
    exact Heap.get?_push_of_some _ e
  have hD₁ : h₁.get? H1.objs.size = some (LCg.lst []) := by
    refine hsb₁.extBut _ _ DC (Heap.get?_push_of_some _ ?_)
    rw [← hH2]
    exact Heap.get?_push_size _ rfl
  have hI₁ : IsRangeIter h₁ s₁.heap.objs.size (0 + ((0 : Nat) : Int) * 1) ((n : Int) - ((0 : Nat) : Int)) 1 := by
    show h₁.get? _ = some _
    refine hsb₁.extBut _ _ IC (Heap.get?_push_of_some _ ?_)
    rw [← hH2]
    refine Heap.get?_push_of_some _ ?_
    rw [← hI]
    simpa using Heap.get?_push_size _ rfl
  have fresh : ∀ b, s₁.heap.objs.size ≤ b → s₁.heap.get? b = none := fun b hb => by
    cases e : s₁.heap.get? b with
    | none => rfl
    | some o' => exact absurd (Heap.lt_size e) (Nat.not_lt.mpr hb)
  have gfresh : ∀ b, s₁.heap.objs.size ≤ b → G.get? b = none := fun b hb => by
    cases e : G.get? b with
    | none => rfl
    | some o' => have := W.g.keep _ _ e; rw [fresh b hb] at this; cases this
  have WW := LCg.range_walks (prog := PySem.Challenge.rw_nb0052_01.row.prog) (w := w) (I := s₁.heap.objs.size) hh 0 n
  have step : ∀ (s' : Shared) h3 tk3, Wd w mean mg mb G P Q s' → Stp P Q s₁ s' → (∀ b o, b ≠ s₁.heap.objs.size → b ≠ H2.objs.size → s'.heap.get? b = some o → h3.get? b = some o) → Wd w mean mg mb G P Q { s' with heap := h3, toks := tk3 } ∧ Stp P Q s₁ { s' with heap := h3, toks := tk3 } := by
    intro s' h3 tk3 W' S' k3
    refine ⟨W'.to (fun b o hb e => ?_) fun z => z, ⟨fun b o h1 h2 e => ?_, S'.os, S'.drawn⟩⟩
    · have : b < s₁.heap.objs.size := by
        rcases hb with hb | hb | hb
        · exact Heap.lt_size (W.g.keep _ _ hb)
        · rw [hb]; exact lP
        · rw [hb]; exact lQ
      exact k3 b o (Nat.ne_of_lt this) (Nat.ne_of_lt (Nat.lt_of_lt_of_le this lC)) e
    · have lb := Heap.lt_size e
      exact k3 b o (Nat.ne_of_lt lb) (Nat.ne_of_lt (Nat.lt_of_lt_of_le lb lC)) (S'.keep b o h1 h2 e)
  have loop : ∀ s₃ : Shared, s₃ = ⟨h₁, s₁.gens, s₁.drawn, s₁.toks + ([] : List (Str × Value)).length, s₁.os⟩ →
      codeAny (model PG w) A (.compLoop (.ListComp elt [⟨.Name x px, iter, [c], 0⟩] scope pos) 0 (.ref s₁.heap.objs.size) (.ref H1.objs.size) (compEnvC scope cl H2.objs.size env)) (compPost (model PG w) A E none QQ (.ref H1.objs.size) H2.objs.size) s₃ := by
    rintro s₃ rfl
    refine codeAny_compLoop_tests (fun k s' => ∃ i, i ≤ n ∧ k = n + 1 - i ∧ Wd w mean mg mb G P Q s' ∧ Stp P Q s₁ s' ∧ IsRangeIter s'.heap s₁.heap.objs.size (0 + (i : Nat) * 1) ((n : Int) - (i : Nat)) 1 ∧ (∃ m', s'.heap.Ns H2.objs.size m') ∧ s'.heap.get? H1.objs.size = some (LCg.lst [])) ?_ (n + 1)
      ⟨0, Nat.zero_le _, rfl, (step s₁ h₁ _ W Stp.refl fun b o _ _ e => old b o e).1, (step s₁ h₁ _ W Stp.refl fun b o _ _ e => old b o e).2, hI₁, ⟨_, hns₁⟩, hD₁⟩
    rintro k s' ⟨i, hi, rfl, W', S', st', ⟨m', ns'⟩, hD'⟩
    by_cases hlt : i < n
    · refine WW.item i _ _ _ hlt st' fun v h₂ tk₂ hPv st₂ hk₂ => ?_
      refine wpAny_assign_Name (wpAny_storeName_local (lookup_relabel_local hx) (ns'.at' fun o e => hk₂ _ o (by simpa using Ne.symm IC) e) (fun h₃ hn₃ hs₃ => ?_) (by simp [compEnvC, relabel, hkind]))
      obtain ⟨t', rfl⟩ := hPv
      have k3 : ∀ b o, b ≠ s₁.heap.objs.size → b ≠ H2.objs.size → s'.heap.get? b = some o → h₃.get? b = some o := fun b o h1 h2 e => hs₃.extBut _ _ h2 (hk₂ b o (by simpa using h1) e)
      have st₃ := WW.frame _ _ _ st₂ fun b hb o e => hs₃.extBut b o (fun q => IC (by rw [← List.mem_singleton.mp hb]; exact q)) e
      obtain ⟨W3, S3⟩ := step s' h₃ (tk₂ + 1) W' S' k3
      refine wpAny_tests_one (wpAny_mono (turn i _ _ _ t' _ hlt W3 S3 hn₃ (by simp)) (fun ok s4 h4 => ?_) fun _ _ e => e)
      obtain ⟨rfl, W4, S4⟩ := h4
      rw [if_neg (by decide)]
      refine ⟨n + 1 - (i + 1), ax_turn hlt, i + 1, hlt, rfl, W4, S3.trans S4, ?_, ⟨_, hn₃.at' fun o e => S4.keep _ _ (nP _ lC).1 (nP _ lC).2 e⟩, S4.keep _ _ (nP _ lD).1 (nP _ lD).2 (k3 _ _ (Ne.symm ID) DC hD')⟩
      exact WW.frame _ _ _ st₃ fun b hb o e => by
        rw [List.mem_singleton.mp hb] at e ⊢
        exact S4.keep _ _ (nP _ lI).1 (nP _ lI).2 e
    · obtain rfl : i = n := Nat.le_antisymm hi (Nat.not_lt.mp hlt)
      refine WW.done _ _ _ st' fun h₂ tk₂ hk₂ => ?_
      refine ⟨_, ns'.at' fun o e => hk₂ _ o (by simpa using Ne.symm IC) e, fun h' hs' => ?_⟩
      have k3 : ∀ b o, b ≠ s₁.heap.objs.size → b ≠ H2.objs.size → s'.heap.get? b = some o → h'.get? b = some o := fun b o h1 h2 e => hs'.extBut _ _ h2 (hk₂ b o (by simpa using h1) e)
      obtain ⟨W3, S3⟩ := step s' h' tk₂ W' S' k3
      exact fin _ _ W3 S3 (k3 _ _ (Ne.symm ID) DC hD') (fresh _ lD)
  refine codeAny_compStart_list (loop _ rfl) (WW.self 0 _ _ _ hI₁ (loop _ rfl))
end
end Mine
end

section
open PySem PySem.W PyProof.Rows PySem.Calls Builtin Builtin.ObjectAttr
namespace Mine
structure IA (w : World) (G : Heap) (L : Addr) (m : Str → Option Value) (P Q : Addr) (os : OsState) (dr : Drawn) (s : Shared) : Prop where
  F : Fr G L s.heap m
  N : ∃ oP oQ, TabOk w 60 P oP ∧ TabOk w 67 Q oQ ∧ News G L s.heap [(P, oP), (Q, oQ)]
  bare : AllBare s.gens
  os : s.os = os
  dr : s.drawn = dr
structure NX (w : World) (G : Heap) (L : Addr) (m : Str → Option Value) (P Q : Addr) (os : OsState) (dr : Drawn) (f : Flow) (s : Shared) : Prop where
  nx : f = .next
  ia : IA w G L m P Q os dr s
theorem if_join {w : World} {A : Around} {E : Value → Shared → Prop} {s : Shared} {G : Heap} {L P Q : Addr} {m : Str → Option Value} {st : Stmt} {rest : List Stmt} {env : Env} {QQ : Flow → Shared → Prop} (F : Fr G L s.heap m)
    (h1 : wpAny (model PG w) A (exec st env) (fun f s' => NX w G L m P Q s.os s.drawn f s') E s) (h2 : ∀ s', IA w G L m P Q s.os s.drawn s' → wpAny (model PG w) A (execs rest env) QQ E s') :
    wpAny (model PG w) A (execs (st :: rest) env) QQ E s :=
  wpAny_execs_cons (wpAny_mono h1 (fun f s' h => by obtain ⟨rfl, h⟩ := h; exact h2 s' h) fun _ _ e => e)
end Mine
end

section
open PySem PySem.W PyProof.Rows PySem.Calls Builtin Builtin.ObjectAttr
set_option maxRecDepth 100000
set_option maxHeartbeats 20000000
namespace Mine
section
variable {w : World} {A : Around} {s s2 : Shared} {P Q : Addr} {R : Result → Shared → Prop} {mg mb m0 : Str → Option Value} {mean : ExcName → Option Value} {h₀ : Heap} {E : Value → Shared → Prop} {oP oQ : Obj}
local macro_rules | `(tactic| walk_at "exec For Name Constant cons nil") => `(tactic| (k_here; refine stop1 ?_))
local macro_rules | `(tactic| walk_at "call ref") => `(tactic| (k_here; refine stop1 ?_))
theorem hslice (x : Str) : (Txt.slice x (some 1) none).length ≤ x.length := by rw [← cl_len, slice_from1, List.length_drop, cl_len]; exact Nat.sub_le _ _
structure RJ (G : Heap) (L : Addr) (m : Str → Option Value) (news : List (Addr × Obj)) (whole former : Str) (s s' : Shared) : Prop where
  ex : ∃ z tz h' tk', s' = { s with heap := h', toks := tk' } ∧ whole = former ++ z ∧ z.length ≤ 901 ∧ Fr G L h' (fun y => if y = Str.ofString "rest" then some (.str z tz) else m y) ∧ News G L h' news
structure RJ2 (f : Flow) (p : Prop) : Prop where
  nx : f = .next
  h : p
theorem join_rest {w : World} {A : Around} {E : Value → Shared → Prop} {s : Shared} {G : Heap} {L : Addr} {m : Str → Option Value} {news : List (Addr × Obj)} (whole former : Str) {st : Stmt} {rest : List Stmt} {env : Env} {QQ : Flow → Shared → Prop} (_ : Fr G L s.heap m) (_ : News G L s.heap news)
    (h1 : wpAny (model PG w) A (exec st env) (fun f s' => RJ2 f (RJ G L m news whole former s s')) E s) (h2 : ∀ s', RJ G L m news whole former s s' → wpAny (model PG w) A (execs rest env) QQ E s') :
    wpAny (model PG w) A (execs (st :: rest) env) QQ E s :=
  wpAny_execs_cons (wpAny_mono h1 (fun f s' h => by obtain ⟨rfl, h⟩ := h; exact h2 s' h) fun _ _ e => e)
structure TJ (G : Heap) (L : Addr) (m : Str → Option Value) (news : List (Addr × Obj)) (p : Prop) (s : Shared) (b : Bool) (s' : Shared) : Prop where
  ex : ∃ h' tk', s' = { s with heap := h', toks := tk' } ∧ (b = true → p) ∧ Fr G L h' m ∧ News G L h' news
theorem join_test {w : World} {A : Around} {E : Value → Shared → Prop} {s : Shared} {G : Heap} {L : Addr} {m : Str → Option Value} {news : List (Addr × Obj)} (p : Prop) {mt : Sem Bool} {QQ : Bool → Shared → Prop} (_ : Fr G L s.heap m) (_ : News G L s.heap news)
    (h1 : wpAny (model PG w) A mt (TJ G L m news p s) E s) (h2 : ∀ b s', TJ G L m news p s b s' → QQ b s') : wpAny (model PG w) A mt QQ E s := wpAny_mono h1 (fun b s' h => h2 b s' h) fun _ _ e => e
local macro_rules | `(tactic| walk_at "binaryOp Add str str") => `(tactic| (k_here; (with_reducible show wpAny _ _ (binaryOp _ (Value.str (capS _ _) _) (Value.str _ _)) _ _ _); refine SB.add (fun t' k' => ?_) (by assumption)))
theorem halves_rest {name qual : Str} {params : Arguments} {body : List Stmt} {scope : Scope} {dV kV doc pm ct oc cdv : Value} {an od : Option Addr} {osl : Array (Option Value)} {ah bh : Str} {ta tb tw : Tok} {wv : Option Value} {rest : List Stmt}
    (hk : (hd.heap_39 w.params).lookup 137 = some ⟨oc, od, .func (fnOf name qual params body scope dV kV doc pm an cdv ct), osl⟩) (hr : body.drop 9 = rest)
    (W : Wd w mean mg mb h₀ P Q s) (hroom : A.depth + 6 < recursionLimit) (hh : A.handled = none) (J : IA w (hideAll s.heap [P, Q]) s.heap.objs.size (fun y => if y = Str.ofString "behind" then some (.str bh tb) else if y = Str.ofString "ahead" then some (.str ah ta) else if y = Str.ofString "white" then wv else if y = Str.ofString "whole" then some (.str (ah ++ bh) tw) else m0 y) P Q s.os s.drawn s2)
    (ga : Good ah) (gb : Good bh) (hlen : ah.length + bh.length ≤ 900)
    (h : ∀ s', Wd w mean mg mb h₀ P Q s' → Stp P Q s s' → R (.ok (.ret (.bool true))) s') :
    wpAny (model PySem.Challenge.rw_nb0052_01.row.prog w) (A.deeper (envOf qual scope s.heap.objs.size 137 cdv)) (execs rest (envOf qual scope s.heap.objs.size 137 cdv))
      (fun fl s' => R (.ok (.ret (match fl with | .ret v => v | _ => .none))) s')
      (fun e s' => wpAny (model PySem.Challenge.rw_nb0052_01.row.prog w) (A.deeper (envOf qual scope s.heap.objs.size 137 cdv)) (leaving (envOf qual scope s.heap.objs.size 137 cdv) e) (fun _ s'' => R (.error e) s'') (fun e' s'' => R (.error e') s'') s') s2 := by
  subst hr
  obtain ⟨hd9, dp9, fr9, gd9, units9⟩ := A
  cases hh
  have gh := W.g.hide [P, Q] (by intro b hb; simp only [List.mem_cons, List.not_mem_nil, or_false] at hb; rcases hb with rfl | rfl; exact W.nP; exact W.nQ)
  obtain ⟨F2, ⟨oP, oQ, tP, tQ, N2⟩, b2, os2, dr2⟩ := J
  obtain ⟨h2, g2, d2, tk2, o2⟩ := s2
  dsimp only at F2 N2 b2 os2 dr2
  subst os2 dr2
  have GX := gh.X
  have GT := gh.T
  have r0 : ∀ env, ((Around.mk none dp9 fr9 gd9 units9).deeper env).depth < recursionLimit := fun env => Nat.lt_of_le_of_lt (show dp9 + 1 ≤ dp9 + 6 from Nat.add_le_add_left (by decide) _) hroom
  revert hk; k_fill; intro hk
  k_dflt (refine' (fun q => ?_ : _ → _) (key_of hk ?hk9); (case hk9 => k_is))
  obtain ⟨rfl, rfl, rfl, rfl⟩ := q
  clear hk gh
  iterate 2 walk1
  refine Stop.mk ?_
  rename Fr _ _ _ _ => lF'
  with_unfolding_all refine' For_invVF lF' ?k1 ?k2 ?_
  case k1 => exact rfl
  case k2 => exact rfl
  walk1
  have F3 := ‹Fr (hideAll s.heap [P, Q]) s.heap.objs.size _ _›
  have N3 := ‹News (hideAll s.heap [P, Q]) s.heap.objs.size _ [(P, oP), (Q, oQ)]›
  refine KStt.kst_text (σ := Unit) (fun _ => [(P, oP), (Q, oQ)]) (fun _ => []) (fun _ => True) [Str.ofString "mark", Str.ofString "rest"] (fun _ _ => True) () rfl F3 N3 trivial (fun _ h => nim h) trivial ?_ ?_
  · intro _ pre post n t u0 hh3 tk3 own hcd off _ _ F4 N4
    have hn : n = 32 ∨ n = 97 := by
      have hm : (n : Int) ∈ KStt.codes (Str.ofString " a") := by rw [hcd]; simp
      have e : KStt.codes (Str.ofString " a") = [32, 97] := by decide +kernel
      rw [e] at hm
      simp at hm
      exact hm.imp (fun h => Int.ofNat.inj h) fun h => Int.ofNat.inj h
    have F5 := F4
    simp only [kstB] at F5
    have N5 : News (hideAll s.heap [P, Q]) s.heap.objs.size hh3 ((P, oP) :: (Q, oQ) :: own) := N4
    clear F4 N4 F3
    have hm : n ∈ al := by rcases hn with h | h <;> rw [h] <;> decide
    have h46 : Unit → n ≠ 46 := fun _ z => by rcases hn with h | h <;> rw [h] at z <;> exact absurd z (by decide)
    clear hn
    have ha9 : ah.length ≤ 900 := Nat.le_trans (Nat.le_add_right _ _) hlen
    have hb9 : bh.length ≤ 900 := Nat.le_trans (Nat.le_add_left _ _) hlen
    have la : Unit → ah.length ≤ 1000 := fun _ => Nat.le_trans ha9 (by decide)
    have lb : bh.length ≤ 1000 := Nat.le_trans hb9 (by decide)
    have lx : Unit → (ah ++ bh).length ≤ 1000 := fun _ => by rw [← cl_len, cl_app, List.length_append, cl_len, cl_len]; exact Nat.le_trans hlen (by decide)
    have ly : Unit → (Str.ofString "." ++ bh).length ≤ 901 := fun _ => by
      rw [← cl_len, cl_app, List.length_append, cl_len, cl_len, show (Str.ofString ".").length = 1 from by decide +kernel, Nat.add_comm]
      exact Nat.succ_le_succ hb9
    have c1 : Unit → (capS ah ⟨#[n]⟩).length ≤ 900 := fun _ => by rw [cap_len ga hm]; exact ha9
    have c2 : Unit → (capS bh ⟨#[n]⟩).length ≤ 901 := fun _ => by rw [cap_len gb hm]; exact Nat.le_succ_of_le hb9
    have c5 : Unit → (Txt.slice (capS (Str.ofString "." ++ bh) ⟨#[n]⟩) (some 1) none).length ≤ 901 := fun _ => Nat.le_trans (hslice _) (by rw [cap_len (good_app good_dot gb) hm]; exact ly ())
    clear ha9 hb9 hlen
    refine join_rest (capS (ah ++ bh) ⟨#[n]⟩) (capS ah ⟨#[n]⟩) F5 N5 ?_ ?_
    · k_steps
      · have hc := cap_cut1 ga gb hm (stt_of (.inl ‹(ah == Str.ofString "") = true›))
        refine Stop.mk ?_
        refine capK F5 N5 GX GT (r0 _) rfl lb (Nat.le_refl 1) (by show 1 ≤ 2; decide) ?_
        intro h6 tk6 t6 F6 N6
        clear F5 N5
        k_steps
        exact ⟨rfl, _, _, _, _, rfl, hc, c2 (), by assumption, by assumption⟩
      · have hc := cap_cut1 ga gb hm (stt_of (.inr ⟨‹(Txt.item ah (-1) == _) = true›, ‹(ah == Str.ofString "") = false›⟩))
        refine Stop.mk ?_
        refine capK F5 N5 GX GT (r0 _) rfl lb (Nat.le_refl 1) (by show 1 ≤ 2; decide) ?_
        intro h6 tk6 t6 F6 N6
        clear F5 N5
        k_steps
        exact ⟨rfl, _, _, _, _, rfl, hc, c2 (), by assumption, by assumption⟩
      · have hc := cap_cut2 ga gb hm (h46 ()) (stt_not ‹(Txt.item ah (-1) == _) = false› ‹(ah == Str.ofString "") = false›)
        refine Stop.mk ?_
        refine capK F5 N5 GX GT (r0 _) rfl (Nat.le_trans (ly ()) (by decide)) (Nat.le_refl 1) (by show 1 ≤ 2; decide) ?_
        intro h6 tk6 t6 F6 N6
        clear F5 N5
        have c4 : (capS (Str.ofString "." ++ bh) ⟨#[n]⟩).length ≤ 901 := by rw [cap_len (good_app good_dot gb) hm]; exact ly ()
        k_steps
        exact ⟨rfl, _, _, _, _, rfl, hc, c5 (), by assumption, by assumption⟩
    · rintro s6 ⟨z, tz, h6, tk6, rfl, hz, hzl, F6, N6⟩
      have hadd : (capS ah ⟨#[n]⟩).length + z.length ≤ sizeLine := Nat.le_trans (Nat.add_le_add (c1 ()) hzl) (by rw [sizeLine_eq]; decide)
      clear F5 N5 c1 c2 c5 ly h46 lb hzl
      k_steps
      refine Stop.mk ?_
      refine capKe hz F6 N6 GX GT (r0 _) rfl (lx ()) (Nat.le_refl 1) (by show 1 ≤ 2; decide) ?_
      intro h8 tk8 t8 F8 N8
      clear F6 N6
      k_steps
      refine Stop.mk ?_
      refine capK F8 N8 GX GT (r0 _) rfl (la ()) (Nat.le_refl 1) (by show 1 ≤ 2; decide) ?_
      intro h9 tk9 t9 F9 N9
      clear F8 N8
      k_steps
      exfalso
      rename_i bad
      rw [bne_self_eq_false] at bad
      cases bad
  · intro _ u0 hh3 tk3 _ _ F4 N4
    have F5 : Fr (hideAll s.heap [P, Q]) s.heap.objs.size hh3 _ := F4
    simp only [kstB] at F5
    have N5 : News (hideAll s.heap [P, Q]) s.heap.objs.size hh3 [(P, oP), (Q, oQ)] := N4
    clear F4 N4 F3
    have ha9 : ah.length ≤ 900 := Nat.le_trans (Nat.le_add_right _ _) hlen
    have hb9 : bh.length ≤ 900 := Nat.le_trans (Nat.le_add_left _ _) hlen
    have n1 : (capN ah).length ≤ 901 := Nat.le_trans (capN_len ga) (Nat.succ_le_succ ha9)
    have n2 : (capN bh).length ≤ 901 := Nat.le_trans (capN_len gb) (Nat.succ_le_succ hb9)
    have la : ah.length ≤ 1000 := Nat.le_trans ha9 (by decide)
    have lb : bh.length ≤ 1000 := Nat.le_trans hb9 (by decide)
    have lc : Unit → (ah ++ bh).length ≤ 1000 := fun _ => by rw [← cl_len, cl_app, List.length_append, cl_len, cl_len]; exact Nat.le_trans hlen (by decide)
    clear ha9 hb9 hlen
    iterate 2 walk1
    refine join_test (endsW (cl ah) ∨ begsW (cl bh)) F5 N5 ?_ ?_
    · k_steps
      · have Nz := ‹News (hideAll s.heap [P, Q]) s.heap.objs.size _ (_ :: (P, oP) :: _)›
        exact ⟨_, _, rfl, fun _ => .inl (ends_white ‹_›), by assumption, fun p hp => Nz p (.tail _ hp)⟩
      · have Nz := ‹News (hideAll s.heap [P, Q]) s.heap.objs.size _ (_ :: _ :: (P, oP) :: _)›
        exact ⟨_, _, rfl, fun _ => .inr (begs_white ‹_›), by assumption, fun p hp => Nz p (.tail _ (.tail _ hp))⟩
      · have Nz := ‹News (hideAll s.heap [P, Q]) s.heap.objs.size _ (_ :: _ :: (P, oP) :: _)›
        exact ⟨_, _, rfl, fun h => Bool.noConfusion h, by assumption, fun p hp => Nz p (.tail _ (.tail _ hp))⟩
    · rintro b s6 ⟨h6, tk6, rfl, hb, F6, N6⟩
      clear F5 N5
      cases b
      · k_steps
        have Fz := ‹Fr (hideAll s.heap [P, Q]) s.heap.objs.size _ _›
        have Nz := ‹News (hideAll s.heap [P, Q]) s.heap.objs.size _ ((P, oP) :: _)›
        obtain ⟨W14, S14⟩ := fin_wd W (wd_of (s := ⟨_, g2, s.drawn, _, s.os⟩) Fz GX GT Nz (.head _) (.tail _ (.head _)) tP tQ W.ne b2) rfl rfl
        exact h _ W14 S14
      · have hcut := capN_cut ga gb (hb rfl)
        k_steps
        try refine Stop.mk ?_
        refine capNK F6 N6 GX GT (r0 _) rfl la ?_
        intro h7 tk7 t7 F7 N7
        clear F6 N6
        k_steps
        try refine Stop.mk ?_
        refine capNK F7 N7 GX GT (r0 _) rfl lb ?_
        intro h8 tk8 t8 F8 N8
        clear F7 N7
        k_steps
        have F9 := ‹Fr (hideAll s.heap [P, Q]) s.heap.objs.size _ _›
        have N9 := ‹News (hideAll s.heap [P, Q]) s.heap.objs.size _ (_ :: (P, oP) :: _)›
        try refine Stop.mk ?_
        refine capNK F9 N9 GX GT (r0 _) rfl (lc ()) ?_
        intro h10 tk10 t10 F10 N10
        clear F9 N9
        k_steps
        all_goals
          have Fz := ‹Fr (hideAll s.heap [P, Q]) s.heap.objs.size _ _›
          have Nz := ‹News (hideAll s.heap [P, Q]) s.heap.objs.size _ (_ :: _ :: (P, oP) :: _)›
          obtain ⟨W14, S14⟩ := fin_wd W (wd_of (s := ⟨_, g2, s.drawn, _, s.os⟩) Fz GX GT Nz (.tail _ (.tail _ (.head _))) (.tail _ (.tail _ (.tail _ (.head _)))) tP tQ W.ne b2) rfl rfl
        · have e : (capN (ah ++ bh) == Txt.join (Str.ofString " ") [capN ah, capN bh]) = true := by
            rw [hcut]
            simp only [List.filter, ‹(capN ah != _) = true›, ‹(capN bh != _) = true›, beq_self_eq_true]
          rw [e]
          exact h _ W14 S14
        · have e : (capN (ah ++ bh) == Txt.join (Str.ofString " ") [capN ah]) = true := by
            rw [hcut]
            simp only [List.filter, ‹(capN ah != _) = true›, ‹(capN bh != _) = false›, beq_self_eq_true]
          rw [e]
          exact h _ W14 S14
        · have e : (capN (ah ++ bh) == Txt.join (Str.ofString " ") [capN bh]) = true := by
            rw [hcut]
            simp only [List.filter, ‹(capN ah != _) = false›, ‹(capN bh != _) = true›, beq_self_eq_true]
          rw [e]
          exact h _ W14 S14
        · have e : (capN (ah ++ bh) == Txt.join (Str.ofString " ") []) = true := by
            rw [hcut]
            simp only [List.filter, ‹(capN ah != _) = false›, ‹(capN bh != _) = false›, beq_self_eq_true]
          rw [e]
          exact h _ W14 S14
end
end Mine
end

section
open PySem PySem.W PyProof.Rows PySem.Calls Builtin Builtin.ObjectAttr
set_option maxRecDepth 100000
set_option maxHeartbeats 100000000
namespace Mine
local macro_rules | `(tactic| walk_at "pad") => `(tactic| skip)
section
variable {w : World} {A : Around} {s s' : Shared} {a d P Q L l : Addr} {vs us : List Value} {k : Int} {R : Result → Shared → Prop} {mg mb m : Str → Option Value} {mean : ExcName → Option Value} {G h₀ : Heap} {E : Value → Shared → Prop} {ps : List (Str × Str)} {oP oQ : Obj} {news pre post : List (Addr × Obj)}
theorem nofields {tl : List (Addr × Obj)} {vs1 vs2 pv : List Value} {pp : List (Str × Str)} {a1 d1 a2 d2 : Addr} {n1 n2 m1 m2 : Nat} {k1 k2 : Int} {t1 t2 t3 t4 : Tok} (hpl : PrsL tl pv pp) : ∀ p ∈ (a1, accObj d1 vs1 n1) :: (d1, szDict w k1 t1 t2 m1) :: (a2, accObj d2 vs2 n2) :: (d2, szDict w k2 t3 t4 m2) :: tl, ∀ z, p.2.data ≠ .fields z := by
  intro p hp z
  rcases List.mem_cons.mp hp with rfl | hp
  · exact nf rfl z
  rcases List.mem_cons.mp hp with rfl | hp
  · exact nf rfl z
  rcases List.mem_cons.mp hp with rfl | hp
  · exact nf rfl z
  rcases List.mem_cons.mp hp with rfl | hp
  · exact nf rfl z
  obtain ⟨_, _, _, e⟩ := hpl.tup p hp
  rw [e]; exact nf rfl z
local macro_rules | `(tactic| walk_at "getMethod ref") => `(tactic| (k_here; refine stop1 ?_))
local macro_rules | `(tactic| walk_at "call ref") => `(tactic| (k_here; refine stop1 ?_))
local macro_rules | `(tactic| walk_at "call type:str") => `(tactic| (k_here; (with_reducible show wpAny _ _ (call _ [Value.ref _]) _ _ _); refine stop1 ?_))
theorem halves_wd {c : Nat} {tc : Tok} (W : Wd w mean mg mb h₀ P Q s) (hroom : A.depth + 6 < recursionLimit) (hu : A.units + 20 < cLine) (hh : A.handled = none) (hl : s.heap.IsList l us.toArray) (hp : Prs s.heap us ps) (hn : ps.length ≤ 20) (hc : c ≤ ps.length) (sm : ∀ p ∈ ps, p.1.length ≤ 10 ∧ p.2.length ≤ 10) (hsum : lens ps ≤ 900) (hg : Good (cat ps))
    (h : ∀ s', Wd w mean mg mb h₀ P Q s' → Stp P Q s s' → R (.ok (.ret (.bool true))) s') : codeAny (model PySem.Challenge.rw_nb0052_01.row.prog w) A (.call (.ref 137) ⟨[.ref l, .int c tc], []⟩) R s := by
  obtain ⟨hd9, dp9, fr9, gd9, units9⟩ := A
  cases hh
  have X : (hd.heap_39 w.params).In s.heap := W.X
  have T := W.T
  obtain ⟨oP, oQ, tP, tQ, eP, eQ⟩ := led_wd W
  have gh := W.g.hide [P, Q] (by intro b hb; simp only [List.mem_cons, List.not_mem_nil, or_false] at hb; rcases hb with rfl | rfl; exact W.nP; exact W.nQ)
  have hcat : cat ps = cat (ps.take c) ++ cat (ps.drop c) := by rw [← cat_app, List.take_append_drop]
  have ho : onlyB 0 ps = (onlyB 0 (ps.take c) && onlyB 0 (ps.drop c)) := by
    have := only_cut (ps := ps.take c) (qs := ps.drop c) (by rw [List.take_append_drop]; exact hg)
    rw [List.take_append_drop] at this
    exact this
  have lG := list_hide W hl
  have pG := prs_hide W hp
  revert X; k_fill; intro X
  k_dflt (refine' enterP (binds := [(Str.ofString "plain", .ref l), (Str.ofString "cut", .int c tc)]) X T (Nat.lt_of_le_of_lt (Nat.le_add_right _ 6) hroom) ?k6 ?k7 ?k9 ?kB ?_ ?c1 ?c2 ?c3 ?c4; (case k6 => k_is); (case k7 => k_is); (case k9 => exact BindsTo.of_eq rfl); (case kB => exact locs rfl); (case c1 => decide); (case c2 => exact rfl); (case c3 => exact rfl); (case c4 => exact rfl))
  intro h₁ F
  have F1 := fr_hide [P, Q] F
  have N1 : News (hideAll s.heap [P, Q]) s.heap.objs.size h₁ [(P, oP), (Q, oQ)] := by
    refine List.forall_mem_cons.mpr ⟨?_, List.forall_mem_cons.mpr ⟨?_, fun p hp => nim hp⟩⟩
    · exact ⟨F.keep _ _ eP, Nat.ne_of_lt (Heap.lt_size eP), hideAll_none _ (by simp)⟩
    · exact ⟨F.keep _ _ eQ, Nat.ne_of_lt (Heap.lt_size eQ), hideAll_none _ (by simp)⟩
  have GX := gh.X
  have GT := gh.T
  have r : ∀ n env, n ≤ 5 → ((Around.mk none dp9 fr9 gd9 units9).deeper env).depth + n < recursionLimit := fun n env hn => Nat.lt_of_le_of_lt (show dp9 + 1 + n ≤ dp9 + 6 from ax_dep hn) hroom
  have r0 : ∀ env, ((Around.mk none dp9 fr9 gd9 units9).deeper env).depth < recursionLimit := fun env => Nat.lt_of_le_of_lt (show dp9 + 1 ≤ dp9 + 6 from Nat.add_le_add_left (by decide) _) hroom
  have u : ∀ n env, n ≤ 17 → ((Around.mk none dp9 fr9 gd9 units9).deeper env).units + n < cLine := fun n env hn => Nat.lt_of_le_of_lt (show units9 + 3 + n ≤ units9 + 20 from ax_un hn) hu
  clear F
  k_steps
  try refine Stop.mk ?_
  refine createK F1 N1 GX GT (r 2 _ (by decide)) (tk := 0) (.inr ⟨rfl, rfl⟩) ?_
  intro a1 d1 h2 tk2 n1 m1 t1 t2 F2 N2 had1 off1
  clear F1 N1
  k_steps
  have F3 := ‹Fr (hideAll s.heap [P, Q]) s.heap.objs.size _ _›
  have N3 := ‹News (hideAll s.heap [P, Q]) s.heap.objs.size _ ((a1, accObj d1 [] n1) :: _)›
  try refine Stop.mk ?_
  refine createK F3 N3 GX GT (r 2 _ (by decide)) (.inl rfl) ?_
  intro a2 d2 h4 tk4 n2 m2 t3 t4 F4 N4 had2 off2
  clear F3 N3
  iterate 3 walk1
  have F5 := ‹Fr (hideAll s.heap [P, Q]) s.heap.objs.size _ _›
  have N5 := ‹News (hideAll s.heap [P, Q]) s.heap.objs.size _ ((a2, accObj d2 [] n2) :: _)›
  have N6 : News (hideAll s.heap [P, Q]) s.heap.objs.size _ ((a1, accObj d1 [] n1) :: [(d1, szDict w 0 t1 t2 m1), (a2, accObj d2 [] n2), (d2, szDict w 1 t3 t4 m2), (P, oP), (Q, oQ)]) := nsub N5 (by (repeat' refine List.forall_mem_cons.mpr ⟨by k_mem, ?_⟩); intro p hp; first | (cases hp; done) | (repeat (first | exact hp | refine List.Mem.tail _ ?_)))
  have e12 : a1 ≠ a2 ∧ a1 ≠ d2 := off2 _ (.head _)
  have ed2 : d1 ≠ a2 ∧ d1 ≠ d2 := off2 _ (.tail _ (.head _))
  have eP1 : P ≠ a1 ∧ P ≠ d1 := off1 _ (.head _)
  have eQ1 : Q ≠ a1 ∧ Q ≠ d1 := off1 _ (.tail _ (.head _))
  have eP2 : P ≠ a2 ∧ P ≠ d2 := off2 _ (.tail _ (.tail _ (.head _)))
  have eQ2 : Q ≠ a2 ∧ Q ≠ d2 := off2 _ (.tail _ (.tail _ (.tail _ (.head _))))
  have sm' : ∀ p ∈ ps, p.1.length ≤ 1000 ∧ p.2.length ≤ 1000 := fun p hp => ⟨Nat.le_trans (sm p hp).1 (by decide), Nat.le_trans (sm p hp).2 (by decide)⟩
  refine for_push rfl (r0 _) F5 N6 (.head _) ?_ GX GT lG pG (Nat.le_trans hn (by decide)) rfl rfl rfl rfl rfl rfl rfl rfl rfl rfl ?_
  · refine List.forall_mem_cons.mpr ⟨?_, List.forall_mem_cons.mpr ⟨?_, List.forall_mem_cons.mpr ⟨?_, List.forall_mem_cons.mpr ⟨?_, List.forall_mem_cons.mpr ⟨?_, fun p hp => nim hp⟩⟩⟩⟩⟩
    · exact Ne.symm had1
    · exact Ne.symm e12.1
    · exact Ne.symm e12.2
    · exact eP1.1
    · exact eQ1.1
  intro h7 tk7 vs1 n3 tl vb va F7 N7 hpl
  have N8 : News (hideAll s.heap [P, Q]) s.heap.objs.size h7 ((P, oP) :: (Q, oQ) :: (a1, accObj d1 vs1 n3) :: (d1, szDict w 0 t1 t2 m1) :: (a2, accObj d2 [] n2) :: (d2, szDict w 1 t3 t4 m2) :: tl) := nsub N7 (List.forall_mem_cons.mpr ⟨List.Mem.tail _ (List.mem_append_right _ (by k_mem)), List.forall_mem_cons.mpr ⟨List.Mem.tail _ (List.mem_append_right _ (by k_mem)), List.forall_mem_cons.mpr ⟨.head _, List.forall_mem_cons.mpr ⟨List.Mem.tail _ (List.mem_append_right _ (by k_mem)), List.forall_mem_cons.mpr ⟨List.Mem.tail _ (List.mem_append_right _ (by k_mem)), List.forall_mem_cons.mpr ⟨List.Mem.tail _ (List.mem_append_right _ (by k_mem)), fun p hp => .tail _ (List.mem_append_left _ hp)⟩⟩⟩⟩⟩⟩)
  clear F5 N5 N6 N7
  k_steps
  have F9 := ‹Fr (hideAll s.heap [P, Q]) s.heap.objs.size _ _›
  have N9 := ‹News (hideAll s.heap [P, Q]) s.heap.objs.size _ ((P, oP) :: _)›
  try refine Stop.mk ?_
  refine strKe hcat F9 N9 tP tQ W.ne (nofields hpl) GX GT W.bare (r 1 _ (by decide)) (u 2 _ (by decide)) rfl (hold_led N9 (k := 0) (.tail _ (.tail _ (.head _))) (.tail _ (.tail _ (.tail _ (.head _)))) hpl (fun q hq => .tail _ (.tail _ (.tail _ (.tail _ (.tail _ (.tail _ hq)))))) (Nat.le_trans hn (by decide)) sm' (by decide)) ?_
  intro oP10 oQ10 h10 g10 tk10 t10 F10 N10 tP10 tQ10 b10
  clear F9 N9
  k_steps
  have F11 := ‹Fr (hideAll s.heap [P, Q]) s.heap.objs.size _ _›
  have N11 := ‹News (hideAll s.heap [P, Q]) s.heap.objs.size _ ((P, oP10) :: _)›
  have z1 : ∀ {hh : Heap} {x y : Obj}, News (hideAll s.heap [P, Q]) s.heap.objs.size hh ((P, x) :: (Q, y) :: (a1, accObj d1 vs1 n3) :: (d1, szDict w 0 t1 t2 m1) :: (a2, accObj d2 [] n2) :: (d2, szDict w 1 t3 t4 m2) :: tl) → Hold w hh a1 d1 vs1 0 ps := fun N => hold_led N (.tail _ (.tail _ (.head _))) (.tail _ (.tail _ (.tail _ (.head _)))) hpl (fun q hq => .tail _ (.tail _ (.tail _ (.tail _ (.tail _ (.tail _ hq)))))) (Nat.le_trans hn (by decide)) sm' (by decide)
  try refine Stop.mk ?_
  refine methK (f := .ref 83) (TT := "function") F11 GX (z1 N11) (by kernel_rfl) (by kernel_rfl) (by decide) (by decide) ?_
  k_steps
  try refine Stop.mk ?_
  refine (show wpAny _ _ (call (.ref 83) [.ref a1]) _ _ _ from ?_)
  try refine Stop.mk ?_
  refine onlyKe ho F11 N11 tP10 tQ10 W.ne (nofields hpl) GX GT b10 (r 3 _ (by decide)) (u 8 _ (by decide)) rfl (z1 N11) (Nat.le_trans hsum (by decide)) ?_
  intro oP12 oQ12 h12 g12 tk12 F12 N12 tP12 tQ12 b12
  clear F11 N11
  k_steps
  have F13 := ‹Fr (hideAll s.heap [P, Q]) s.heap.objs.size _ _›
  have N13 := ‹News (hideAll s.heap [P, Q]) s.heap.objs.size _ ((P, oP12) :: _)›
  have z2 : ∀ {hh : Heap} {x y : Obj}, News (hideAll s.heap [P, Q]) s.heap.objs.size hh ((P, x) :: (Q, y) :: (a1, accObj d1 vs1 n3) :: (d1, szDict w 0 t1 t2 m1) :: (a2, accObj d2 [] n2) :: (d2, szDict w 1 t3 t4 m2) :: tl) → Hold w hh a2 d2 [] 1 [] := fun N => hold_led (tl := []) N (.tail _ (.tail _ (.tail _ (.tail _ (.head _))))) (.tail _ (.tail _ (.tail _ (.tail _ (.tail _ (.head _)))))) PrsL.nil (fun q hq => nim hq) (by decide) (fun p hp => nim hp) (by decide)
  try refine Stop.mk ?_
  refine methK (f := .ref 76) (TT := "function") F13 GX (z2 N13) (by kernel_rfl) (by kernel_rfl) (by decide) (by decide) ?_
  k_steps
  try refine Stop.mk ?_
  refine methK (f := .ref 46) (TT := "function") F13 GX (z1 N13) (by kernel_rfl) (by kernel_rfl) (by decide) (by decide) ?_
  k_steps
  try refine Stop.mk ?_
  refine (show wpAny _ _ (call (.ref 46) [.ref a1, .int c tc]) _ _ _ from ?_)
  have N14 : News (hideAll s.heap [P, Q]) s.heap.objs.size _ ((a1, accObj d1 vs1 n3) :: (d1, szDict w 0 t1 t2 m1) :: (P, oP12) :: (Q, oQ12) :: (a2, accObj d2 [] n2) :: (d2, szDict w 1 t3 t4 m2) :: tl) := nsub N13 (by (repeat' refine List.forall_mem_cons.mpr ⟨by k_mem, ?_⟩); intro p hp; first | (cases hp; done) | (repeat (first | exact hp | refine List.Mem.tail _ ?_)))
  try refine Stop.mk ?_
  refine popfK F13 N14 (.head _) ?_ GX GT (r0 _) (by rw [hpl.len]; exact Nat.le_trans hn (by decide)) (Int.natCast_nonneg c) (Int.ofNat_le.mpr (Nat.le_trans hc (Nat.le_trans hn (show 20 ≤ 100 by decide)))) ?_
  · refine List.forall_mem_cons.mpr ⟨?_, List.forall_mem_cons.mpr ⟨?_, List.forall_mem_cons.mpr ⟨?_, List.forall_mem_cons.mpr ⟨?_, List.forall_mem_cons.mpr ⟨?_, fun p hp => ?_⟩⟩⟩⟩⟩
    · exact Ne.symm had1
    · exact eP1.1
    · exact eQ1.1
    · exact Ne.symm e12.1
    · exact Ne.symm e12.2
    · intro z
      have q1 := (N14 p (by simp [hp])).1
      rw [z, (N14 _ (.head _)).1] at q1
      have := (hpl.tup p hp).1
      rw [← Option.some.inj q1] at this
      cases this
  intro D h15 tk15 n15 F15 N15 hDa hDn
  clear N13 N14
  k_steps
  try refine Stop.mk ?_
  refine (show wpAny _ _ (call (.ref 76) [.ref a2, .ref D]) _ _ _ from ?_)
  have N16 : News (hideAll s.heap [P, Q]) s.heap.objs.size _ ((a2, accObj d2 [] n2) :: (d2, szDict w 1 t3 t4 m2) :: (D, listOf (vs1.drop c).toArray 0) :: (P, oP12) :: (Q, oQ12) :: (a1, accObj d1 (vs1.take c) n15) :: (d1, szDict w 0 t1 t2 m1) :: tl) := nsub N15 (by (repeat' refine List.forall_mem_cons.mpr ⟨by k_mem, ?_⟩); intro p hp; first | (cases hp; done) | (repeat (first | exact hp | refine List.Mem.tail _ ?_)))
  try refine Stop.mk ?_
  refine resetK F15 N16 (.head _) ?_ had2 GX GT (r0 _) (by simp) (by rw [List.length_drop, hpl.len]; exact Nat.le_trans (Nat.sub_le _ _) (Nat.le_trans hn (by decide))) ?_
  · refine List.forall_mem_cons.mpr ⟨?_, List.forall_mem_cons.mpr ⟨?_, List.forall_mem_cons.mpr ⟨?_, List.forall_mem_cons.mpr ⟨?_, List.forall_mem_cons.mpr ⟨?_, fun p hp => ?_⟩⟩⟩⟩⟩
    · exact ⟨Ne.symm (hDn (a2, accObj d2 [] n2) (by simp)), Ne.symm (hDn (d2, szDict w 1 t3 t4 m2) (by simp))⟩
    · exact eP2
    · exact eQ2
    · exact e12
    · exact ed2
    · have q1 := (N16 p (by simp [hp])).1
      have q2 := (hpl.tup p hp)
      refine ⟨fun z => ?_, fun z => ?_⟩
      · rw [z, (N16 _ (.head _)).1] at q1
        have := q2.1
        rw [← Option.some.inj q1] at this
        cases this
      · rw [z, (N16 _ (.tail _ (.head _))).1] at q1
        have := q2.1
        rw [← Option.some.inj q1] at this
        exact absurd (show Value.type "dict" = Value.type "tuple" from this) (by decide)
  intro h17 tk17 n17 n18 t17 t18 F17 N17
  have N18 : News (hideAll s.heap [P, Q]) s.heap.objs.size h17 ((P, oP12) :: (Q, oQ12) :: (a1, accObj d1 (vs1.take c) n15) :: (d1, szDict w 0 t1 t2 m1) :: (a2, accObj d2 (vs1.drop c) n17) :: (d2, szDict w 0 t17 t18 n18) :: tl) := nsub N17 (by (repeat' refine List.forall_mem_cons.mpr ⟨by k_mem, ?_⟩); intro p hp; first | (cases hp; done) | (repeat (first | exact hp | refine List.Mem.tail _ ?_)))
  clear N15 N16 N17 F15
  have e9 := cat_len (ps.take c)
  have e8 := cat_len (ps.drop c)
  have e7 : lens (ps.take c) + lens (ps.drop c) = lens ps := by
    have := cat_len ps
    rw [hcat, ← cl_len, cl_app, List.length_append, cl_len, cl_len, e9, e8] at this
    exact this
  have lT : lens (ps.take c) ≤ 1000000 := Nat.le_trans (Nat.le_trans (Nat.le_add_right _ _) (Nat.le_of_eq e7)) (Nat.le_trans hsum (by decide))
  have lD : lens (ps.drop c) ≤ 1000000 := Nat.le_trans (Nat.le_trans (Nat.le_add_left _ _) (Nat.le_of_eq e7)) (Nat.le_trans hsum (by decide))
  have sA : ∀ p ∈ ps.take c, p.1.length ≤ 1000 ∧ p.2.length ≤ 1000 := fun p hp => sm' p (List.mem_of_mem_take hp)
  have sB : ∀ p ∈ ps.drop c, p.1.length ≤ 1000 ∧ p.2.length ≤ 1000 := fun p hp => sm' p (List.mem_of_mem_drop hp)
  have y1 : ∀ {hh : Heap} {x y : Obj}, News (hideAll s.heap [P, Q]) s.heap.objs.size hh ((P, x) :: (Q, y) :: (a1, accObj d1 (vs1.take c) n15) :: (d1, szDict w 0 t1 t2 m1) :: (a2, accObj d2 (vs1.drop c) n17) :: (d2, szDict w 0 t17 t18 n18) :: tl) → Hold w hh a1 d1 (vs1.take c) 0 (ps.take c) := fun N => hold_led N (.tail _ (.tail _ (.head _))) (.tail _ (.tail _ (.tail _ (.head _)))) (hpl.take c) (fun q hq => .tail _ (.tail _ (.tail _ (.tail _ (.tail _ (.tail _ hq)))))) (by rw [List.length_take]; exact Nat.le_trans (Nat.min_le_right _ _) (Nat.le_trans hn (by decide))) sA (by decide)
  have y2 : ∀ {hh : Heap} {x y : Obj}, News (hideAll s.heap [P, Q]) s.heap.objs.size hh ((P, x) :: (Q, y) :: (a1, accObj d1 (vs1.take c) n15) :: (d1, szDict w 0 t1 t2 m1) :: (a2, accObj d2 (vs1.drop c) n17) :: (d2, szDict w 0 t17 t18 n18) :: tl) → Hold w hh a2 d2 (vs1.drop c) 0 (ps.drop c) := fun N => hold_led N (.tail _ (.tail _ (.tail _ (.tail _ (.head _))))) (.tail _ (.tail _ (.tail _ (.tail _ (.tail _ (.head _)))))) (hpl.drop c) (fun q hq => .tail _ (.tail _ (.tail _ (.tail _ (.tail _ (.tail _ hq)))))) (by rw [List.length_drop]; exact Nat.le_trans (Nat.sub_le _ _) (Nat.le_trans hn (by decide))) sB (by decide)
  k_steps
  have F19 := ‹Fr (hideAll s.heap [P, Q]) s.heap.objs.size _ _›
  have N19 := ‹News (hideAll s.heap [P, Q]) s.heap.objs.size _ ((P, oP12) :: _)›
  try refine Stop.mk ?_
  refine strK F19 N19 tP12 tQ12 W.ne (nofields hpl) GX GT b12 (r 1 _ (by decide)) (u 2 _ (by decide)) rfl (y1 N19) ?_
  intro oP20 oQ20 h20 g20 tk20 t20 F20 N20 tP20 tQ20 b20
  clear F19 N19
  k_steps
  have F21 := ‹Fr (hideAll s.heap [P, Q]) s.heap.objs.size _ _›
  have N21 := ‹News (hideAll s.heap [P, Q]) s.heap.objs.size _ ((P, oP20) :: _)›
  try refine Stop.mk ?_
  refine strK F21 N21 tP20 tQ20 W.ne (nofields hpl) GX GT b20 (r 1 _ (by decide)) (u 2 _ (by decide)) rfl (y2 N21) ?_
  intro oP22 oQ22 h22 g22 tk22 t22 F22 N22 tP22 tQ22 b22
  clear F21 N21
  iterate 2 walk1
  have F23 := ‹Fr (hideAll s.heap [P, Q]) s.heap.objs.size _ _›
  refine if_join (P := P) (Q := Q) F23 ?_ ?_
  · k_steps
    · exfalso
      rename_i bad
      rw [bne_self_eq_false] at bad
      cases bad
    have F24 := ‹Fr (hideAll s.heap [P, Q]) s.heap.objs.size _ _›
    have N24 := ‹News (hideAll s.heap [P, Q]) s.heap.objs.size _ ((P, oP22) :: _)›
    try refine Stop.mk ?_
    refine methK (f := .ref 83) (TT := "function") F24 GX (y1 N24) (by kernel_rfl) (by kernel_rfl) (by decide) (by decide) ?_
    k_steps
    try refine Stop.mk ?_
    refine (show wpAny _ _ (call (.ref 83) [.ref a1]) _ _ _ from ?_)
    try refine Stop.mk ?_
    refine onlyK F24 N24 tP22 tQ22 W.ne (nofields hpl) GX GT b22 (r 3 _ (by decide)) (u 8 _ (by decide)) rfl (y1 N24) lT ?_
    intro oP25 oQ25 h25 g25 tk25 F25 N25 tP25 tQ25 b25
    clear F24 N24
    k_steps
    · rename_i hA
      try refine Stop.mk ?_
      refine methK (f := .ref 83) (TT := "function") F25 GX (y2 N25) (by kernel_rfl) (by kernel_rfl) (by decide) (by decide) ?_
      k_steps
      try refine Stop.mk ?_
      refine (show wpAny _ _ (call (.ref 83) [.ref a2]) _ _ _ from ?_)
      try refine Stop.mk ?_
      refine onlyK F25 N25 tP25 tQ25 W.ne (nofields hpl) GX GT b25 (r 3 _ (by decide)) (u 8 _ (by decide)) rfl (y2 N25) lD ?_
      intro oP27 oQ27 h27 g27 tk27 F27 N27 tP27 tQ27 b27
      clear F25 N25
      k_steps
      · exfalso
        rename_i bad
        rw [hA, Bool.true_and, bne_self_eq_false] at bad
        cases bad
      · exact ⟨rfl, F27, ⟨oP27, oQ27, tP27, tQ27, news2 N27⟩, b27, rfl, rfl⟩
    · exfalso
      rename_i hA bad
      rw [hA, Bool.false_and, bne_self_eq_false] at bad
      cases bad
    · exact ⟨rfl, F25, ⟨oP25, oQ25, tP25, tQ25, news2 N25⟩, b25, rfl, rfl⟩
  · intro s30 J
    have ga : Good (cat (ps.take c)) := fun x hx => hg x (by rw [hcat, cl_app]; exact List.mem_append_left _ hx)
    have gb : Good (cat (ps.drop c)) := fun x hx => hg x (by rw [hcat, cl_app]; exact List.mem_append_right _ hx)
    have hlen : (cat (ps.take c)).length + (cat (ps.drop c)).length ≤ 900 := by rw [e9, e8, e7]; exact hsum
    k_dflt (refine' halves_rest ?hk9 ?hr9 W hroom rfl J ga gb hlen h; (case hk9 => k_is); (case hr9 => exact rfl))
end
end Mine
end

section
open PySem PySem.W PyProof.Rows PySem.Calls Builtin Builtin.ObjectAttr
set_option maxRecDepth 100000
set_option maxHeartbeats 4000000
namespace Mine
section
variable {w : World} {A : Around} {s : Shared} {P Q l : Addr} {mg mb m : Str → Option Value} {mean : ExcName → Option Value} {G : Heap} {E : Value → Shared → Prop} {us : List Value} {ps : List (Str × Str)} {env : Env}
theorem halves_test {p1 p2 p3 p4 p5 : Pos} {C0 : Addr} {c : Nat} {tc : Tok} (W : Wd w mean mg mb G P Q s) (hroom : A.depth + 6 < recursionLimit) (hu : A.units + 20 < cLine) (hh : A.handled = none)
    (hkf : env.scope.kind = .function) (hgl : env.globals = mainGlobals) (k1 : env.kindOf (Str.ofString "_law_halves") = some .globalImplicit) (k2 : env.kindOf (Str.ofString "plain") = some .cell) (k3 : env.kindOf (Str.ofString "cut") = some .local)
    (hcl : env.cells.lookup (Str.ofString "plain") = some C0) (hC : s.heap.IsCell C0 (some (.ref l))) (hn : s.heap.Ns env.locals m) (hm : m (Str.ofString "cut") = some (.int c tc))
    (hl : s.heap.IsList l us.toArray) (hp : Prs s.heap us ps) (hlen : ps.length ≤ 20) (hc : c ≤ ps.length) (sm : ∀ p ∈ ps, p.1.length ≤ 10 ∧ p.2.length ≤ 10) (hsum : lens ps ≤ 900) (hg : Good (cat ps)) :
    wpAny (model PG w) A (isTrue (.UnaryOp .Not (.Call (nm "_law_halves" p1) [nm "plain" p2, nm "cut" p3] [] p4) p5) env (eval (.UnaryOp .Not (.Call (nm "_law_halves" p1) [nm "plain" p2, nm "cut" p3] [] p4) p5) env)) (fun ok s'' => ok = false ∧ Wd w mean mg mb G P Q s'' ∧ Stp P Q s s'') E s := by
  obtain ⟨oc, od, fd, sl, hff⟩ : ∃ oc od fd sl, (KF w).lookup 137 = some ⟨oc, od, .func fd, sl⟩ := ⟨_, _, _, _, rfl⟩
  have X := W.X
  have T := W.T
  refine isTrue_not (isTrue_plain ?_ ?_)
  · refine wpAny_Call_NameR (Name_function_global hkf k1 (loadGlobal_global (hgl ▸ T.g) (mg_of X T.g (by kernel_rfl : nsIn (KF w) mainGlobals (Str.ofString "_law_halves") = some (some (.ref 137)))) ?_))
    refine callWith_meth (h₀ := s.heap) rfl (X _ _ hff) (spliced_more (wpAny_Name (wpAny_loadName_cell hkf k2 hcl hC ?_) (by decide)))
    refine spliced_more (wpAny_Name (wpAny_loadName_local hkf k3 hn hm ?_) (by decide))
    refine spliced_none ⟨fun _ _ e => e, ?_⟩
    refine wpAny_call (halves_wd (c := c) (tc := tc) W hroom hu hh hl hp hlen hc sm hsum hg fun s' W' S' => ?_)
    exact wpAny_truthy_bool ⟨rfl, W', S'⟩
  · rfl
end
end Mine
end

section
open PySem PySem.W PyProof.Rows PySem.Calls Builtin Builtin.ObjectAttr
set_option maxRecDepth 100000
set_option maxHeartbeats 8000000
namespace Mine
section
variable {w : World} {A : Around} {s : Shared} {R : Result → Shared → Prop} {mg mb : Str → Option Value} {mean : ExcName → Option Value} {base : Heap} {outer : List Env}
local macro_rules | `(tactic| walk_at "getAttr") => `(tactic| (k_here; refine stop1 ?_))
theorem split_empty {prog : Program} {w : World} {A : Around} {E : Value → Shared → Prop} {s : Shared} {x : Str} {t u : Tok} {Q : Value → Shared → Prop} (hA : A.handled = none)
    (h : ∀ h' tk e, Heap.NewExc s.heap h' e "ValueError" → E (.ref e) { s with heap := h', toks := tk }) : wpAny (model prog w) A (call (.builtin "str.split") [.str x t, .str (Str.ofString "") u]) Q E s := by
  have hk : (decide (x.length < (Str.ofString "").length) || decide (Builtin.Str.strKind x < Builtin.Str.strKind (Str.ofString ""))) = false := by
    have e0 : (Str.ofString "").length = 0 := by decide +kernel
    have e1 : Builtin.Str.strKind (Str.ofString "") = 1 := by decide +kernel
    rw [e0, e1]
    have : 1 ≤ Builtin.Str.strKind x := by unfold Builtin.Str.strKind; split <;> (try split) <;> omega
    simp only [Nat.not_lt_zero, decide_false, Bool.false_or, decide_eq_false_iff_not, Nat.not_lt]
    exact this
  exact call_meets PySem.F.slot_str_split (typeIs_str _ _ _) PySem.F.entry_str_split (PySem.F.args_str_split_2 _ _) (raises_str_split_empty x _ t u hk (by decide +kernel)) ⟨hA, h⟩
local macro_rules | `(tactic| walk_at "call builtin:str.split") => `(tactic| (k_here; refine stop1 ?_))
local macro_rules | `(tactic| walk_at "leaving ref") => `(tactic| (k_here; refine stop1 ?_))
theorem capE_code {x : Str} {tx ty : Tok} (B : Below A base outer s.heap) (X : (hd.heap_39 w.params).In s.heap) (T : TopV mean mg mb s.heap) (hroom : A.depth < recursionLimit) (hh : A.handled = none)
    (h : ∀ h' tk e, RaisedSN base s.heap outer e (.type "ValueError") [] h' → s.heap.UpToSlots h' → R (.error (.ref e)) { s with heap := h', toks := tk }) :
    codeAny (model PySem.Challenge.rw_nb0052_01.row.prog w) A (.call (.ref 106) ⟨[.str x tx, .str (Str.ofString "") ty], []⟩) R s := by
  obtain ⟨hd9, dp9, fr9, gd9, units9⟩ := A
  cases hh
  revert X; k_fill; intro X
  k_dflt (refine' enterP X T hroom ?k6 ?k7 ?k9 ?kB ?_ ?c1 ?c2 ?c3 ?c4; (case k6 => k_is); (case k7 => k_is); (case k9 => exact binds_K X rfl (by k_is) rfl rfl rfl); (case kB => exact locs rfl); (case c1 => decide); (case c2 => exact rfl); (case c3 => exact rfl); (case c4 => exact rfl))
  intro h₁ F
  have N : News s.heap s.heap.objs.size h₁ [] := News.nil
  k_steps
  refine Stop.mk ?_
  k_dflt (refine' cap_attr ?F ?X ?_; (case F => k_asm); (case X => k_asm); k_whole)
  k_steps
  refine Stop.mk (split_empty (by rfl) ?_)
  intro h' tk' e' x'
  k_steps
  refine Stop.mk (leave_newS (by assumption) (by assumption) (by k_asm) (by k_asm) ?_)
  intro h' RS' RN' U'
  k_steps
  exact h _ _ _ (by assumption) (by assumption)
theorem refused_code {x : Str} {tx : Tok} (B : Below A base outer s.heap) (XB : (hd.heap_39 w.params).In base) (TB : TopV mean mg mb base) (D : KtsDicts (outer.filterMap (·.frame)) s.heap) (hroom : A.depth + 1 < recursionLimit) (hh : A.handled = none)
    (h : ∀ h' tk g', KtsTurn (outer.filterMap (·.frame)) s.heap g' → (∀ b o, g'.get? b = some o → h'.get? b = some o) → R (.ok (.ret (.bool true))) { s with heap := h', toks := tk }) :
    codeAny (model PySem.Challenge.rw_nb0052_01.row.prog w) A (.call (.ref 132) ⟨[.str x tx], []⟩) R s := by
  obtain ⟨hd9, dp9, fr9, gd9, units9⟩ := A
  cases hh
  have X : (hd.heap_39 w.params).In s.heap := XB.keeps B.stays
  have T : TopV mean mg mb s.heap := TB.keeps B.stays
  revert X; k_fill; intro X
  k_dflt (refine' enterP X T (Nat.lt_of_succ_lt hroom) ?k6 ?k7 ?k9 ?kB ?_ ?c1 ?c2 ?c3 ?c4; (case k6 => k_is); (case k7 => k_is); (case k9 => exact BindsTo.of_eq rfl); (case kB => exact locs rfl); (case c1 => decide); (case c2 => exact rfl); (case c3 => exact rfl); (case c4 => exact rfl))
  intro h₁ F
  have N : News s.heap s.heap.objs.size h₁ [] := News.nil
  k_steps
  refine wpAny_call (capE_code (B.push F) (X.keeps F.keep) (T.keeps F.keep) hroom rfl fun h2 tk2 e RS U => ?_)
  kts_caughtN
  k_steps
  have F9 := ‹Fr _ s.heap.objs.size _ _›
  exact h _ _ _ (by assumption) F9.keep
end
end Mine
end

section
open PySem PySem.W PyProof.Rows PySem.Calls Builtin Builtin.ObjectAttr
set_option maxRecDepth 100000
set_option maxHeartbeats 4000000
namespace Mine
section
variable {w : World} {A : Around} {s s2 : Shared} {P Q I dl : Addr} {mg mb : Str → Option Value} {mean : ExcName → Option Value} {h₀ : Heap} {E : Value → Shared → Prop} {ps : List (Str × Str)} {k : Int} {wv : Option Value} {oI : Obj} {QQ : Flow → Shared → Prop} {outer : List Env}
theorem ground2 {G h g' h' : Heap} {L : Addr} {m : Str → Option Value} {news : List (Addr × Obj)} {fs : List Addr} (F : Fr G L h m) (N : News G L h news) (T : KtsTurn (L :: fs) h g') (hk : ∀ b o, g'.get? b = some o → h'.get? b = some o) (hfs : ∀ b ∈ fs, ∃ o, G.get? b = some o) : Fr (hideAll G fs) L h' m ∧ News (hideAll G fs) L h' news := by
  have GL : G.get? L = none := Heap.get?_none_of_le F.above
  obtain ⟨oL, es, ep, e1, e2, e3⟩ := F.ns
  obtain ⟨sl, e4⟩ := T.frame L oL e1 (.head _)
  refine ⟨⟨⟨_, es, ep, hk _ _ e4, e2, e3⟩, fun b o e => ?_, by rw [hideAll_size]; exact F.above⟩, fun p hp => ⟨hk _ _ (T.other _ _ (N p hp).1 ?_), (N p hp).2.1, ?_⟩⟩
  · have eG := of_hideAll _ e
    refine hk _ _ (T.other b o (F.keep b o eG) fun hm => ?_)
    rcases List.mem_cons.mp hm with rfl | hm
    · rw [GL] at eG; cases eG
    · rw [hideAll_none _ hm] at e; cases e
  · intro hm
    rcases List.mem_cons.mp hm with h | hm
    · exact (N p hp).2.1 h
    · obtain ⟨o, e⟩ := hfs _ hm
      have := (N p hp).2.2
      rw [e] at this; cases this
  · cases q : (hideAll G fs).get? p.1 with
    | none => rfl
    | some o => have := of_hideAll _ q; rw [(N p hp).2.2] at this; cases this
theorem below_hide (W : Wd w mean mg mb h₀ P Q s) (B : Below A h₀ outer s.heap) : Below A h₀ outer (hideAll s.heap [P, Q]) := by
  refine ⟨B.stack, fun b o e => hideAll_get _ (W.g.keep b o e) ?_, ?_⟩
  · intro hm
    simp only [List.mem_cons, List.not_mem_nil, or_false] at hm
    rcases hm with rfl | rfl
    · rw [W.nP] at e; cases e
    · rw [W.nQ] at e; cases e
  · obtain ⟨_, cP⟩ := W.cP
    obtain ⟨_, cQ⟩ := W.cQ
    have key : ∀ {l : List Env}, s.heap.FunFrames h₀ l → (hideAll s.heap [P, Q]).FunFrames h₀ l := by
      intro l
      induction l with
      | nil => intro _; trivial
      | cons env r ih =>
        rintro ⟨hk, ⟨L, o, hf, hn, ho, hd⟩, hr⟩
        refine ⟨hk, ⟨L, o, hf, hn, hideAll_get _ ho fun hm => ?_, hd⟩, ih hr⟩
        simp only [List.mem_cons, List.not_mem_nil, or_false] at hm
        rcases hm with rfl | rfl
        · rw [cP.2.1] at ho; exact hd _ (by rw [← Option.some.inj ho])
        · rw [cQ.2.1] at ho; exact hd _ (by rw [← Option.some.inj ho])
    exact key B.frames
theorem fs_in {h base : Heap} : ∀ {l : List Env}, h.FunFrames base l → ∀ b ∈ l.filterMap (·.frame), (∃ o, h.get? b = some o) ∧ base.get? b = none
  | [], _, b, hb => by cases hb
  | env :: r, ⟨hk, ⟨L, o, hf, hn, ho, hd⟩, hr⟩, b, hb => by
    rw [List.filterMap_cons, hf] at hb
    rcases List.mem_cons.mp hb with rfl | hb
    · exact ⟨⟨o, ho⟩, hn⟩
    · exact fs_in hr b hb
structure RgAt (G : Heap) (L : Addr) (m : Str → Option Value) (news : List (Addr × Obj)) (n : Nat) (g : Array GenState) (os : OsState) (dr : Drawn) (xv : Value) (s₁ : Shared) : Prop where
  rg : ∃ r t u v, xv = .ref r ∧ IsRange s₁.heap r 0 n 1 t u v
  F : Fr G L s₁.heap m
  N : News G L s₁.heap news
  g : s₁.gens = g
  os : s₁.os = os
  dr : s₁.drawn = dr
local macro_rules | `(tactic| walk_at "call ref") => `(tactic| (k_here; refine stop1 ?_))
local macro_rules | `(tactic| walk_at "call type:str") => `(tactic| (k_here; (with_reducible show wpAny _ _ (call _ [Value.ref _]) _ _ _); refine stop1 ?_))
local macro_rules | `(tactic| walk_at "call builtin:len") => `(tactic| (k_here; (with_reducible show wpAny _ _ (call _ [Value.ref _]) _ _ _); refine stop1 ?_))
local macro_rules | `(tactic| walk_at "compareOp Eq ref ref") => `(tactic| (k_here; refine stop1 ?_))
theorem run_rest {name qual : Str} {params : Arguments} {body : List Stmt} {scope : Scope} {dV kV doc pm ct oc cdv : Value} {an od : Option Addr} {osl : Array (Option Value)} {rest : List Stmt}
    (hk : (hd.heap_39 w.params).lookup 142 = some ⟨oc, od, .func (fnOf name qual params body scope dV kV doc pm an cdv ct), osl⟩) (hr : body.drop 3 = rest)
    (W : Wd w mean mg mb h₀ P Q s) (B : Below A h₀ outer s.heap) (D0 : KtsDicts (outer.filterMap (·.frame)) s.heap) (hroom : A.depth + 10 < recursionLimit) (huu : A.units + 100 < cLine) (hh : A.handled = none)
    (S : RS w (hideAll s.heap [P, Q]) s.heap.objs.size P Q I oI dl s.os s.drawn ps k wv s2) (hps : ps.length ≤ 13) (mn : Mn ps) (hk0 : 0 ≤ k ∧ k ≤ 1000)
    (h : ∀ s', Wd w mean mg mb h₀ P Q s' → s'.os = s.os → s'.drawn = s.drawn → QQ (.ret (.bool true)) s') :
    wpAny (model PySem.Challenge.rw_nb0052_01.row.prog w) (A.deeper (envOfC qual scope s.heap.objs.size 142 cdv)) (execs rest (envOfC qual scope s.heap.objs.size 142 cdv)) QQ E s2 := by
  obtain ⟨hd9, dp9, fr9, gd9, units9⟩ := A
  cases hh
  obtain ⟨a, d, l, vs, us, tl, oP, oQ, oC, n1, n2, nl, tk, t1, t2, u, F1, N0, hC, tP, tQ, hv, hu, bare, hos, hdr⟩ := S
  have gh := W.g.hide [P, Q] (by intro b hb; simp only [List.mem_cons, List.not_mem_nil, or_false] at hb; rcases hb with rfl | rfl; exact W.nP; exact W.nQ)
  have B1 := below_hide W B
  have GX := gh.X
  have GT := gh.T
  have ne := W.ne
  obtain ⟨h2, g2, d2, tk2, o2⟩ := s2
  (try dsimp only at F1)
  (try dsimp only at N0)
  (try dsimp only at bare)
  (try dsimp only at hos)
  (try dsimp only at hdr)
  have hC' : ∀ u, oC.data = .cell u ∨ True := fun _ => .inr trivial
  have N1 : News (hideAll s.heap [P, Q]) s.heap.objs.size h2 ((P, oP) :: (Q, oQ) :: (a, accObj d vs n1) :: (d, szDict w k t1 t2 n2) :: (l, listOf us.toArray nl) :: (s.heap.objs.size + 1, oC) :: tl) := nsub N0 (by (repeat' refine List.forall_mem_cons.mpr ⟨by k_mem, ?_⟩); intro p hp; first | (cases hp; done) | (repeat (first | exact hp | refine List.Mem.tail _ ?_)))
  clear N0
  have hnf : ∀ p ∈ (a, accObj d vs n1) :: (d, szDict w k t1 t2 n2) :: (l, listOf us.toArray nl) :: (s.heap.objs.size + 1, oC) :: tl, ∀ z, p.2.data ≠ .fields z := by
    intro p hp z
    simp only [List.mem_cons] at hp
    rcases hp with rfl | rfl | rfl | rfl | hp
    · exact nf rfl z
    · exact nf rfl z
    · exact nf rfl z
    · rw [hC]; exact nf rfl z
    · obtain ⟨_, _, e⟩ := (hv.tup p hp).2
      rw [e]; exact nf rfl z
  have hg := mn_good mn
  have hl := mn_lens mn
  have hcl : (cat ps).length ≤ 100 := by rw [cat_len]; omega
  have sm := mn_small mn
  have hl13 : ps.length ≤ 1000 := Nat.le_trans hps (by decide)
  have H : ∀ {G hh : Heap} {L : Addr} {x y z : Obj}, News G L hh ((P, x) :: (Q, y) :: (a, accObj d vs n1) :: (d, szDict w k t1 t2 n2) :: (l, listOf us.toArray nl) :: (s.heap.objs.size + 1, z) :: tl) → Hold w hh a d vs k ps := fun N => hold_led N (.tail _ (.tail _ (.head _))) (.tail _ (.tail _ (.tail _ (.head _)))) hv (fun q hq => .tail _ (.tail _ (.tail _ (.tail _ (.tail _ (.tail _ hq)))))) hl13 sm hk0
  have r : ∀ n env, n ≤ 9 → ((Around.mk none dp9 fr9 gd9 units9).deeper env).depth + n < recursionLimit := fun n env hn => Nat.lt_of_le_of_lt (show dp9 + 1 + n ≤ dp9 + 10 from ax_dep hn) hroom
  have uu : ∀ n env, n ≤ 97 → ((Around.mk none dp9 fr9 gd9 units9).deeper env).units + n < cLine := fun n env hn => Nat.lt_of_le_of_lt (show units9 + 3 + n ≤ units9 + 100 from ax_un hn) huu
  revert hk; k_fill; intro hk
  k_dflt (refine' (fun q => ?_ : _ → _) (key_of hk ?hk9); (case hk9 => k_is))
  obtain ⟨rfl, rfl, rfl, rfl⟩ := q
  clear hk
  change _ :: _ = _ at hr
  cases hr
  k_steps
  have F3 := ‹Fr (hideAll s.heap [P, Q]) s.heap.objs.size _ _›
  have N3 := ‹News (hideAll s.heap [P, Q]) s.heap.objs.size _ ((P, oP) :: _)›
  refine Stop.mk ?_
  refine strK F3 N3 tP tQ ne hnf GX GT bare (r 1 _ (by decide)) (uu 2 _ (by decide)) rfl (H N3) ?_
  intro oP4 oQ4 h4 g4 tk4 t4 F4 N4 tP4 tQ4 b4
  clear F3 N3 F1 N1
  k_steps
  have hfs := fs_in B1.frames
  have D5 : KtsDicts (s.heap.objs.size :: outer.filterMap (·.frame)) h4 := by
    intro b hb
    rcases List.mem_cons.mp hb with rfl | hb
    · obtain ⟨o, es, ep, e, hd, _⟩ := F4.ns
      exact ⟨o, es, ep, e, hd⟩
    · obtain ⟨⟨o', e'⟩, hn⟩ := hfs b hb
      obtain ⟨o, es, n, e, hd⟩ := D0 b hb
      have := of_hideAll _ e'
      rw [e] at this
      cases this
      exact ⟨_, es, n, F4.keep _ _ e', hd⟩
  refine Stop.mk ?_
  refine wpAny_call (refused_code (pushX B1 F4 rfl rfl) W.g.X W.g.T D5 (r 1 _ (by decide)) rfl fun h6 tk6 g6 T6 k6 => ?_)
  have T6' : KtsTurn (s.heap.objs.size :: outer.filterMap (·.frame)) h4 g6 := T6
  obtain ⟨F6, N6⟩ := ground2 F4 N4 T6' k6 fun b hb => (hfs b hb).1
  have X6 : (hd.heap_39 w.params).In (hideAll (hideAll s.heap [P, Q]) (outer.filterMap (·.frame))) := W.g.X.keeps fun b o e => hideAll_get _ (B1.stays b o e) fun hm => by rw [(hfs b hm).2] at e; cases e
  have Y6 : TopV mean mg mb (hideAll (hideAll s.heap [P, Q]) (outer.filterMap (·.frame))) := W.g.T.keeps fun b o e => hideAll_get _ (B1.stays b o e) fun hm => by rw [(hfs b hm).2] at e; cases e
  have k60 : ∀ b o, h₀.get? b = some o → (hideAll (hideAll s.heap [P, Q]) (outer.filterMap (·.frame))).get? b = some o := fun b o e => hideAll_get _ (B1.stays b o e) fun hm => by rw [(hfs b hm).2] at e; cases e
  generalize hideAll (hideAll s.heap [P, Q]) (outer.filterMap (·.frame)) = G6 at F6 N6 X6 Y6 k60
  clear F4 N4 T6 T6' k6 D5 GX GT
  have N7 : News G6 s.heap.objs.size h6 ((P, oP4) :: (Q, oQ4) :: (l, listOf us.toArray nl) :: (s.heap.objs.size + 1, oC) :: tl) := nsub N6 (by (repeat' refine List.forall_mem_cons.mpr ⟨by k_mem, ?_⟩); intro p hp; first | (cases hp; done) | (repeat (first | exact hp | refine List.Mem.tail _ ?_)))
  clear N6
  have hl12 : us.length ≤ 1000 := by rw [hu.len]; exact hl13
  iterate 6 walk1
  refine comp_none (mean := mean) (mg := mg) (mb := mb) (G := G6) (P := P) (Q := Q) rfl (cl := [(Str.ofString "plain", s.heap.objs.size + 1)]) rfl (by decide) rfl (by decide) rfl ?_ (fun _ => rfl)
  refine wpAny_mono (Q := RgAt G6 s.heap.objs.size (mapR a dl k tk wv u) ((P, oP4) :: (Q, oQ4) :: (l, listOf us.toArray nl) :: (s.heap.objs.size + 1, oC) :: tl) (ps.length + 1) g4 o2 d2) (E := E) ?_ (fun xv s9 R9 => ?_) fun _ _ e => e
  · k_steps
    refine Stop.mk ?_
    refine lenL (l := l) ⟨_, (N7 (l, listOf us.toArray nl) (by simp)).1, rfl, nl, rfl⟩ hu.len hl13 ?_
    intro t8 k8
    k_steps
    exact ⟨⟨_, _, _, _, rfl, by assumption⟩, by assumption, by assumption, rfl, rfl, rfl⟩
  · obtain ⟨⟨rr, t9, u9, v9, rfl, hrg⟩, F9, N9, hg9, hos9, hdr9⟩ := R9
    obtain ⟨h9, g9, d9, tk9, o9⟩ := s9
    (try dsimp only at hrg)
    (try dsimp only at F9)
    (try dsimp only at N9)
    (try dsimp only at hg9)
    (try dsimp only at hos9)
    (try dsimp only at hdr9)
    subst hg9 hos9 hdr9
    have W9 : Wd w mean mg mb G6 P Q ⟨h9, g9, d9, tk9, o9⟩ := wd_of F9 X6 Y6 N9 (.head _) (.tail _ (.head _)) tP4 tQ4 ne b4
    have hn9 : ∀ p ∈ (l, listOf us.toArray nl) :: (s.heap.objs.size + 1, oC) :: tl, p.1 ≠ P ∧ p.1 ≠ Q := by
      intro p hp
      have ep := (N9 p (.tail _ (.tail _ hp))).1
      have hd : p.2.cls = .type "list_iterator" ∨ ∀ z, p.2.data ≠ .fields z := by
        simp only [List.mem_cons] at hp
        rcases hp with rfl | rfl | hp
        · exact .inr (nf rfl)
        · exact .inr fun z e => by rw [hC] at e; cases e
        · obtain ⟨z, n, e⟩ := (hv.tup p hp).2
          exact .inr fun y e' => by rw [e] at e'; cases e'
      exact ⟨tab_ne (X6.keeps F9.keep) tP4 (N9 _ (.head _)).1 ep hd, tab_ne (X6.keeps F9.keep) tQ4 (N9 _ (.tail _ (.head _))).1 ep hd⟩
    refine ⟨rr, t9, u9, v9, ps.length + 1, rfl, hrg, Nat.le_trans (Nat.succ_le_succ hps) (by decide), W9, ?_, ?_⟩
    · intro i C s' m' t' E' hi W' S' ns' hm'
      have kp : ∀ p ∈ (l, listOf us.toArray nl) :: (s.heap.objs.size + 1, oC) :: tl, s'.heap.get? p.1 = some p.2 := fun p hp => S'.keep _ _ (hn9 p hp).1 (hn9 p hp).2 (N9 p (.tail _ (.tail _ hp))).1
      refine halves_test W' (Nat.lt_of_le_of_lt (show dp9 + 1 + 6 ≤ dp9 + 10 from ax_dep (show 6 ≤ 9 by decide)) hroom) (Nat.lt_of_le_of_lt (show units9 + 3 + 20 ≤ units9 + 100 from ax_un (show 20 ≤ 97 by decide)) huu) rfl rfl rfl rfl rfl rfl rfl ⟨oC, kp _ (.tail _ (.head _)), hC⟩ ns' hm' (l := l) (us := us) (ps := ps) ⟨_, kp _ (.head _), rfl, nl, rfl⟩ (hu.prs fun q hq => kp q (.tail _ (.tail _ hq))) (Nat.le_trans hps (by decide)) (by omega) (fun p hp => ⟨Nat.le_trans (menu1_len _ (mn p hp).1) (by decide), Nat.le_trans (menu2_len _ (mn p hp).2) (by decide)⟩) (by omega) hg
    · intro D s' W' S' hD hDn
      obtain ⟨F10, ⟨oP10, oQ10, tP10, tQ10, N10⟩, b10, os10, dr10⟩ := aft_of2 F9 N9 hn9 W' S'
      obtain ⟨h10, g10, d10, tk10, o10⟩ := s'
      (try dsimp only at F10)
      (try dsimp only at N10)
      (try dsimp only at b10)
      (try dsimp only at os10)
      (try dsimp only at dr10)
      (try dsimp only at hD)
      have N11 : News G6 s.heap.objs.size h10 [(D, listOf #[] 0), (P, oP10), (Q, oQ10)] := by
        refine List.forall_mem_cons.mpr ⟨?_, List.forall_mem_cons.mpr ⟨?_, List.forall_mem_cons.mpr ⟨?_, fun p hp => nim hp⟩⟩⟩
        · refine ⟨hD, ?_, ?_⟩
          · intro z
            obtain ⟨oL, _, _, e, _⟩ := F9.ns
            dsimp only at hDn
            have z' : D = s.heap.objs.size := z
            rw [z', e] at hDn
            cases hDn
          · cases q : G6.get? D with
            | none => rfl
            | some o => have := F9.keep _ _ q; dsimp only at hDn; rw [hDn] at this; cases this
        · exact N10 _ (.head _)
        · exact N10 _ (.tail _ (.head _))
      clear N10 W' S' hDn hD W9 F9 N9 hn9
      k_steps
      rename_i l12 h12 F12 N12 lt12
      refine Stop.mk ?_
      refine eq_dataH (da := .list []) (db := .list []) (Reads.list (N12 _ (.tail _ (.head _))).1 rfl rfl ReadsAll.nil) (Reads.list (N12 _ (.head _)).1 rfl rfl ReadsAll.nil) rfl rfl (Nat.lt_of_le_of_lt (show units9 + 3 + 64 ≤ units9 + 100 from ax_un (show 64 ≤ 97 by decide)) huu) ?_
      refine h _ ?_ (os10.trans hos) (dr10.trans hdr)
      have W12 : Wd w mean mg mb G6 P Q ⟨h12, g10, d10, tk10, o10⟩ := wd_of F12 X6 Y6 N12 (.tail _ (.tail _ (.head _))) (.tail _ (.tail _ (.tail _ (.head _)))) tP10 tQ10 ne b10
      exact ⟨⟨W.g.X, W.g.T, fun b o e => F12.keep _ _ (k60 b o e)⟩, W.nP, W.nQ, ne, W12.cP, W12.cQ, b10⟩
end
end Mine
end

section
open PySem PySem.W PyProof.Rows PySem.Calls Builtin Builtin.ObjectAttr
set_option maxRecDepth 100000
set_option maxHeartbeats 4000000
namespace Mine
section
variable {w : World} {A : Around} {s : Shared} {L P Q dl : Addr} {mg mb : Str → Option Value} {mean : ExcName → Option Value} {G : Heap} {E : Value → Shared → Prop} {k : Int} {wv : Option Value} {oP oQ : Obj} {QQ : Flow → Shared → Prop}
theorem ints_at : ∀ {vs : List Value} {ns : List Int} {i : Nat} {n : Int}, IntsAre vs ns → ns[i]? = some n → ∃ t, vs[i]? = some (.int n t)
  | _, _, i, n, .nil, h => by simp at h
  | _, _, 0, n, .cons m t _, h => by simp at h; exact ⟨t, by rw [← h]; rfl⟩
  | _, _, i + 1, n, .cons m t r, h => by simp at h; obtain ⟨t', e⟩ := ints_at r h; exact ⟨t', by simpa using e⟩
theorem run_loop {name qual : Str} {params : Arguments} {body : List Stmt} {scope : Scope} {dV kV doc pm ct oc cdv : Value} {an od : Option Addr} {osl : Array (Option Value)} {rest more : List Stmt} {pp p1 p2 : Pos}
    {a d l : Addr} {oC : Obj} {n1 n2 nl : Nat} {tk t1 t2 : Tok} {u : Str → Option Value} {ds : List Value} {ns : List Int}
    (hk : (hd.heap_39 w.params).lookup 142 = some ⟨oc, od, .func (fnOf name qual params body scope dV kV doc pm an cdv ct), osl⟩) (hr : body.drop 2 = .For (nm "deed" p1) (nm "deeds" p2) rest [] pp :: more)
    (GX : (hd.heap_39 w.params).In G) (GT : TopV mean mg mb G) (hroom : A.depth + 9 < recursionLimit) (huu : A.units + 90 < cLine) (hh : A.handled = none)
    (F : Fr G L s.heap (mapR a dl k tk wv u)) (N : News G L s.heap [(P, oP), (Q, oQ), (a, accObj d [] n1), (d, szDict w k t1 t2 n2), (l, listOf ([] : List Value).toArray nl), (L + 1, oC)]) (hC : oC.data = .cell (some (.ref l)))
    (tP : TabOk w 60 P oP) (tQ : TabOk w 67 Q oQ) (ne : P ≠ Q) (bare : AllBare s.gens) (hk0 : 0 ≤ k ∧ k ≤ 1000)
    (hkf : scope.kind = .function) (k1 : scope.names.lookup (Str.ofString "deed") = some .local) (k2 : scope.names.lookup (Str.ofString "deeds") = some .local)
    (hl : G.IsList dl ds.toArray) (hi : IntsAre ds ns) (hlen : ns.length ≤ 12) (hns : ∀ n ∈ ns, 0 ≤ n ∧ n < 1000000)
    (h : ∀ s' I oI ps' k' wv', ps'.length ≤ 12 → Mn ps' → 0 ≤ k' ∧ k' ≤ 1000 → RS w G L P Q I oI dl s.os s.drawn ps' k' wv' s' → QQ .next s') :
    wpAny (model PySem.Challenge.rw_nb0052_01.row.prog w) A (exec (.For (nm "deed" p1) (nm "deeds" p2) rest [] pp) (envOfC qual scope L 142 cdv)) QQ E s := by
  refine wpAny_For (wpAny_Name (wpAny_loadName_local (env := envOfC qual scope L 142 cdv) hkf k2 F.ns rfl ?_) (by decide)) (fun _ => rfl)
  refine wpAny_pyIter_list (hl.at fun o e => F.keep _ _ e) ?_
  have hdl := hi.length
  have up : ∀ b o, s.heap.get? b = some o → (s.heap.push { cls := .type "list_iterator", data := .fields #[.ref dl, .int 0 0] }).get? b = some o := fun b o e => Heap.get?_push_of_some _ e
  have hIG : G.get? s.heap.objs.size = none := by
    cases q : G.get? s.heap.objs.size with
    | none => rfl
    | some o => exact absurd (Heap.lt_size (F.keep _ _ q)) (Nat.lt_irrefl _)
  have hLI : s.heap.objs.size ≠ L := Ne.symm (Nat.ne_of_lt F.ns.lt)
  refine codeAny_forLoop_any (fun kn s' => ∃ i ps' k' wv' oI, i ≤ ns.length ∧ kn = ns.length + 1 - i ∧ ps'.length ≤ i ∧ Mn ps' ∧ (0 ≤ k' ∧ k' ≤ 1000) ∧ oI.cls = .type "list_iterator" ∧ oI.data = .fields #[.ref dl, .int i 0] ∧ RS w G L P Q s.heap.objs.size oI dl s.os s.drawn ps' k' wv' s') ?_ (ns.length + 1)
    ⟨0, [], k, wv, { cls := .type "list_iterator", data := .fields #[.ref dl, .int 0 0] }, Nat.zero_le _, rfl, Nat.le_refl _, (fun _ h => nim h), hk0, rfl, rfl, RS.mk a d l [] [] [] oP oQ oC n1 n2 nl tk t1 t2 u (fr_grow F up) ?_ hC tP tQ PrsL.nil PrsL.nil bare rfl rfl⟩
  · rintro kn s' ⟨i, ps', k', wv', oI, hile, rfl, hps, mn, hk', hIc, hId, R⟩
    obtain ⟨a', d', l', vs, us, tl, oP', oQ', oC', n1', n2', nl', tk', t1', t2', u', F', N', hC', tP', tQ', hv, hu, bare', hos, hdr⟩ := R
    have hit : s'.heap.IsListIter s.heap.objs.size dl i := ⟨oI, (N' (_, oI) (by simp)).1, hIc, hId⟩
    have hl' : s'.heap.IsList dl ds.toArray := hl.at fun o e => F'.keep _ _ e
    have X' := GX.keeps F'.keep
    have eI := (N' (s.heap.objs.size, oI) (by simp)).1
    have off : ∀ p ∈ (P, oP') :: (Q, oQ') :: (a', accObj d' vs n1') :: (d', szDict w k' t1' t2' n2') :: (l', listOf us.toArray nl') :: (L + 1, oC') :: tl, p.1 ≠ s.heap.objs.size := by
      have key : ∀ p, p ∈ (P, oP') :: (Q, oQ') :: (a', accObj d' vs n1') :: (d', szDict w k' t1' t2' n2') :: (l', listOf us.toArray nl') :: (L + 1, oC') :: (s.heap.objs.size, oI) :: tl → (∀ z, p.2.data ≠ .fields z) → p.1 ≠ s.heap.objs.size := fun p hm hd z => by
        have e1 := (N' p hm).1
        rw [z, eI] at e1
        exact hd _ (by rw [← Option.some.inj e1]; exact hId)
      exact List.forall_mem_cons.mpr ⟨Ne.symm (tab_ne X' tP' (N' _ (.head _)).1 eI (.inl hIc)), List.forall_mem_cons.mpr ⟨Ne.symm (tab_ne X' tQ' (N' _ (.tail _ (.head _))).1 eI (.inl hIc)),
        List.forall_mem_cons.mpr ⟨key _ (by k_mem) (nf rfl), List.forall_mem_cons.mpr ⟨key _ (by k_mem) (nf rfl), List.forall_mem_cons.mpr ⟨key _ (by k_mem) (nf rfl), List.forall_mem_cons.mpr ⟨key _ (by k_mem) (by rw [hC']; exact nf rfl),
        fun p hp => key p (.tail _ (.tail _ (.tail _ (.tail _ (.tail _ (.tail _ (.tail _ hp))))))) (by obtain ⟨z, n, e⟩ := (hv.tup p hp).2; rw [e]; exact nf rfl)⟩⟩⟩⟩⟩⟩
    have N0' : News G L s'.heap ((P, oP') :: (Q, oQ') :: (a', accObj d' vs n1') :: (d', szDict w k' t1' t2' n2') :: (l', listOf us.toArray nl') :: (L + 1, oC') :: tl) := nsub N' (by (repeat' refine List.forall_mem_cons.mpr ⟨by k_mem, ?_⟩); intro p hp; first | (cases hp; done) | (repeat (first | exact hp | refine List.Mem.tail _ ?_)))
    by_cases hlt : i < ns.length
    · obtain ⟨t, ht⟩ := ints_at hi (List.getElem?_eq_getElem hlt)
      refine wpAny_pyNext_list_item hit hl' (by simpa using ht) fun h₂ hit₂ hs₂ => ?_
      refine wpAny_pure ?_
      have F₂ : Fr G L h₂ _ := ⟨F'.ns.at' fun o e => hs₂.extBut _ _ (Ne.symm hLI) e, fun b o e => hs₂.extBut b o (fun z => by rw [z, hIG] at e; cases e) (F'.keep b o e), F'.above⟩
      obtain ⟨oI2, eI2, hIc2, hId2⟩ := hit₂
      have N₂ : News G L h₂ ((P, oP') :: (Q, oQ') :: (a', accObj d' vs n1') :: (d', szDict w k' t1' t2' n2') :: (l', listOf us.toArray nl') :: (L + 1, oC') :: (s.heap.objs.size, oI2) :: tl) := by
        have mv : ∀ p ∈ (P, oP') :: (Q, oQ') :: (a', accObj d' vs n1') :: (d', szDict w k' t1' t2' n2') :: (l', listOf us.toArray nl') :: (L + 1, oC') :: tl, h₂.get? p.1 = some p.2 ∧ p.1 ≠ L ∧ G.get? p.1 = none := fun p hp => ⟨hs₂.extBut _ _ (off p hp) (N0' p hp).1, (N0' p hp).2⟩
        exact List.forall_mem_cons.mpr ⟨mv _ (by k_mem), List.forall_mem_cons.mpr ⟨mv _ (by k_mem), List.forall_mem_cons.mpr ⟨mv _ (by k_mem), List.forall_mem_cons.mpr ⟨mv _ (by k_mem), List.forall_mem_cons.mpr ⟨mv _ (by k_mem), List.forall_mem_cons.mpr ⟨mv _ (by k_mem), List.forall_mem_cons.mpr ⟨⟨eI2, hLI, hIG⟩, fun p hp => mv p (.tail _ (.tail _ (.tail _ (.tail _ (.tail _ (.tail _ hp))))))⟩⟩⟩⟩⟩⟩⟩
      refine wpAny_assign_Name (wpAny_storeName_local (env := envOfC qual scope L 142 cdv) k1 F₂.ns (fun h₃ hn₃ hs₃ => ?_) (by show (scope.kind == .class || (scope.kind == .module && L != mainGlobals)) = false; rw [hkf]; rfl))
      have F₃ := F₂.set hn₃ hs₃
      have N₃ := N₂.set hs₃
      have hn := hns _ (List.getElem_mem hlt)
      refine run_turn (ps := ps') (k := k') (n := ns[i]) (tn := t) hk hr GX GT hroom huu hh F₃ N₃ hC' hIc2 hId2 tP' tQ' ne hv hu bare' hn.1 hn.2 (Nat.le_trans hps (Nat.le_of_lt (Nat.lt_of_lt_of_le hlt hlen))) mn hk' fun s6 ps6 k6 wv6 T6 R6 => ?_
      refine ⟨ns.length + 1 - (i + 1), ax_turn hlt, i + 1, ps6, k6, wv6, oI2, hlt, rfl, Nat.le_trans T6.len (Nat.succ_le_succ hps), T6.mn mn, ?_, hIc2, by simpa using hId2, ?_⟩
      · rcases T6.k with h | h
        · rw [h]; exact hk'
        · rw [h]; decide
      · dsimp only at R6
        rw [hos, hdr] at R6
        exact R6
    · obtain rfl : i = ns.length := Nat.le_antisymm hile (Nat.not_lt.mp hlt)
      refine wpAny_pyNext_list_end hh hit hl' (by simp [hdl]) fun h₂ hs₂ => wpAny_execs_nil ?_
      refine h _ (L + 1) oC' ps' k' wv' (Nat.le_trans hps hlen) mn hk' (RS.mk a' d' l' vs us tl oP' oQ' oC' n1' n2' nl' tk' t1' t2' u' ⟨F'.ns.at' fun o e => hs₂ _ _ (Ne.symm hLI) e, fun b o e => hs₂ b o (fun z => by rw [z, hIG] at e; cases e) (F'.keep b o e), F'.above⟩ ?_ hC' tP' tQ' hv hu bare' hos hdr)
      have mv : ∀ p ∈ (P, oP') :: (Q, oQ') :: (a', accObj d' vs n1') :: (d', szDict w k' t1' t2' n2') :: (l', listOf us.toArray nl') :: (L + 1, oC') :: tl, h₂.get? p.1 = some p.2 ∧ p.1 ≠ L ∧ G.get? p.1 = none := fun p hp => ⟨hs₂ _ _ (off p hp) (N0' p hp).1, (N0' p hp).2⟩
      exact List.forall_mem_cons.mpr ⟨mv _ (by k_mem), List.forall_mem_cons.mpr ⟨mv _ (by k_mem), List.forall_mem_cons.mpr ⟨mv _ (by k_mem), List.forall_mem_cons.mpr ⟨mv _ (by k_mem), List.forall_mem_cons.mpr ⟨mv _ (by k_mem), List.forall_mem_cons.mpr ⟨mv _ (by k_mem), List.forall_mem_cons.mpr ⟨mv _ (by k_mem), fun p hp => mv p (.tail _ (.tail _ (.tail _ (.tail _ (.tail _ (.tail _ hp))))))⟩⟩⟩⟩⟩⟩⟩
  · have mv : ∀ p ∈ [(P, oP), (Q, oQ), (a, accObj d [] n1), (d, szDict w k t1 t2 n2), (l, listOf ([] : List Value).toArray nl), (L + 1, oC)], (s.heap.push { cls := .type "list_iterator", data := .fields #[.ref dl, .int 0 0] }).get? p.1 = some p.2 ∧ p.1 ≠ L ∧ G.get? p.1 = none := fun p hp => ⟨up _ _ (N p hp).1, (N p hp).2⟩
    exact List.forall_mem_cons.mpr ⟨mv _ (by k_mem), List.forall_mem_cons.mpr ⟨mv _ (by k_mem), List.forall_mem_cons.mpr ⟨mv _ (by k_mem), List.forall_mem_cons.mpr ⟨mv _ (by k_mem), List.forall_mem_cons.mpr ⟨mv _ (by k_mem), List.forall_mem_cons.mpr ⟨mv _ (by k_mem), List.forall_mem_cons.mpr ⟨⟨Heap.get?_push_size _ rfl, hLI, hIG⟩, fun p hp => nim hp⟩⟩⟩⟩⟩⟩⟩
end
end Mine
end

section
open PySem PySem.W PyProof.Rows PySem.Calls Builtin Builtin.ObjectAttr
set_option maxRecDepth 100000
set_option maxHeartbeats 4000000
namespace Mine
section
variable {w : World} {A : Around} {s : Shared} {R : Result → Shared → Prop} {mg mb : Str → Option Value} {mean : ExcName → Option Value}
theorem enterC {name qual : Str} {params : Arguments} {body : List Stmt} {scope : Scope} {dV kV doc pm ct oc cdv : Value} {an od : Option Addr} {osl : Array (Option Value)} {f : Addr} {args : Args} {binds : List (Str × Value)}
    (X : (KF w).In s.heap) (T : TopV mean mg mb s.heap) (hroom : A.depth < recursionLimit)
    (ho : (hd.heap_39 w.params).lookup f = some ⟨oc, od, .func (fnOf name qual params body scope dV kV doc pm an cdv ct), osl⟩) (hcd : codeIn (hd.heap_39 w.params) cdv qual = true)
    (hbind : BindsTo s (fnOf name qual params body scope dV kV doc pm an cdv ct) args binds)
    (hkind : ∀ n, ∀ x ∈ binds, scope.names.lookup x.1 = some .local ∨ (scope.names.lookup x.1 = some .cell ∧ ((cellsFrom n scope.names []).lookup x.1).isSome = true))
    (hnd : ((cellsFrom 0 scope.names []).map (·.1)).Nodup)
    (h : ∀ h₁ tk cells, Fr s.heap s.heap.objs.size h₁ (bindL (envOfC qual scope s.heap.objs.size f cdv).kindOf binds fun _ => none) → News s.heap s.heap.objs.size h₁ cells →
      CellsAre (bindC (envOfC qual scope s.heap.objs.size f cdv).kindOf binds fun _ => none) (cellsFrom (s.heap.objs.size + 1) scope.names []) cells →
      wpAny (model PG w) (A.deeper (envOfC qual scope s.heap.objs.size f cdv)) (execs body (envOfC qual scope s.heap.objs.size f cdv))
        (fun fl s' => R (.ok (.ret (match fl with | .ret v => v | _ => .none))) s')
        (fun e s' => wpAny (model PG w) (A.deeper (envOfC qual scope s.heap.objs.size f cdv)) (leaving (envOfC qual scope s.heap.objs.size f cdv) e) (fun _ s'' => R (.error e) s'') (fun e' s'' => R (.error e') s'') s')
        { s with heap := h₁, toks := tk })
    (hco : scope.isCoroutine = false) (hgen : scope.isGenerator = false) (hk : scope.kind = .function) : codeAny (model PG w) A (.call (.ref f) args) R s := by
  refine codeAny_call_function (fd := fnOf name qual params body scope dV kV doc pm an cdv ct) hroom (X _ _ ho) rfl hco hgen rfl (codeRec_of X hcd) (hbind _ _ _ _ (wpAny_newFunctionEnv_cells hk (hkind _) ?_))
  rintro _ rfl s1 x
  have up := x.toInCall.keep
  have apart := cellsFrom_names scope.names 0 (s.heap.objs.size + 1) [] [] rfl ▸ hnd
  obtain ⟨cs, nc, ca⟩ := Cl.news (h₀ := s.heap) (Nat.le_refl _) fun i c hm => ⟨x.cell i c (lookup_of_mem_nodup apart hm), x.above i c hm⟩
  obtain ⟨g, k, rfl, _⟩ := x.done
  exact ⟨T.nolimit.keeps up, codeAny_func (h g k cs ⟨x.toInCall.ns, up, Nat.le_refl _⟩ nc ca)⟩
end
end Mine
end

section
open PySem PySem.W PyProof.Rows PySem.Calls Builtin Builtin.ObjectAttr
set_option maxRecDepth 100000
set_option maxHeartbeats 4000000
namespace Mine
section
variable {w : World} {A : Around} {s : Shared} {P Q dl : Addr} {mg mb : Str → Option Value} {mean : ExcName → Option Value} {h₀ : Heap} {k : Int} {R : Result → Shared → Prop} {outer : List Env} {ds : List Value} {ns : List Int}
theorem run_wd {tk : Tok} (W : Wd w mean mg mb h₀ P Q s) (B : Below A h₀ outer s.heap) (D0 : KtsDicts (outer.filterMap (·.frame)) s.heap) (hroom : A.depth + 12 < recursionLimit) (huu : A.units + 110 < cLine) (hh : A.handled = none)
    (hl : s.heap.IsList dl ds.toArray) (hi : IntsAre ds ns) (hlen : ns.length ≤ 12) (hns : ∀ n ∈ ns, 0 ≤ n ∧ n < 1000000) (hk0 : 0 ≤ k ∧ k ≤ 1000)
    (h : ∀ s', Wd w mean mg mb h₀ P Q s' → s'.os = s.os → s'.drawn = s.drawn → R (.ok (.ret (.bool true))) s') : codeAny (model PySem.Challenge.rw_nb0052_01.row.prog w) A (.call (.ref 142) ⟨[.int k tk, .ref dl], []⟩) R s := by
  obtain ⟨hd9, dp9, fr9, gd9, units9⟩ := A
  cases hh
  have X : (hd.heap_39 w.params).In s.heap := W.X
  have T := W.T
  obtain ⟨oP, oQ, tP, tQ, eP, eQ⟩ := led_wd W
  have gh := W.g.hide [P, Q] (by intro b hb; simp only [List.mem_cons, List.not_mem_nil, or_false] at hb; rcases hb with rfl | rfl; exact W.nP; exact W.nQ)
  have lG := list_hide W hl
  revert X; k_fill; intro X
  k_dflt (refine' enterC (binds := [(Str.ofString "size", .int k tk), (Str.ofString "deeds", .ref dl)]) X T (Nat.lt_of_le_of_lt (Nat.le_add_right _ 12) hroom) ?k6 ?k7 ?k9 ?kB ?kC ?_ ?c2 ?c3 ?c4; (case k6 => k_is); (case k7 => k_is); (case k9 => exact BindsTo.of_eq rfl); (case kB => (intro n x hx; simp only [List.mem_cons, List.not_mem_nil, or_false] at hx; rcases hx with rfl | rfl <;> exact .inl rfl)); (case kC => decide); (case c2 => exact rfl); (case c3 => exact rfl); (case c4 => exact rfl))
  intro h₁ tk1 cells F NC Y
  have F0 : Fr s.heap s.heap.objs.size h₁ (fun y => if y = Str.ofString "deeds" then some (.ref dl) else if y = Str.ofString "size" then some (.int k tk) else none) := F
  have Y0 : CellsAre (fun _ => none) [(Str.ofString "plain", s.heap.objs.size + 1)] cells := Y
  obtain ⟨oC, rfl, hC⟩ := Y0.one
  clear Y F
  have F1 := fr_hide [P, Q] F0
  have N1 : News (hideAll s.heap [P, Q]) s.heap.objs.size h₁ [(P, oP), (Q, oQ), (s.heap.objs.size + 1, oC)] := by
    refine List.forall_mem_cons.mpr ⟨?_, List.forall_mem_cons.mpr ⟨?_, List.forall_mem_cons.mpr ⟨?_, fun p hp => nim hp⟩⟩⟩
    · exact ⟨F0.keep _ _ eP, Nat.ne_of_lt (Heap.lt_size eP), hideAll_none _ (by simp)⟩
    · exact ⟨F0.keep _ _ eQ, Nat.ne_of_lt (Heap.lt_size eQ), hideAll_none _ (by simp)⟩
    · have z := NC _ (.head _)
      refine ⟨z.1, z.2.1, ?_⟩
      cases q : (hideAll s.heap [P, Q]).get? (s.heap.objs.size + 1) with
      | none => rfl
      | some o => have := of_hideAll _ q; rw [z.2.2] at this; cases this
  have GX := gh.X
  have GT := gh.T
  have r : ∀ n env, n ≤ 11 → ((Around.mk none dp9 fr9 gd9 units9).deeper env).depth + n < recursionLimit := fun n env hn => Nat.lt_of_le_of_lt (show dp9 + 1 + n ≤ dp9 + 12 from ax_dep hn) hroom
  clear F0 NC
  k_steps
  refine createK F1 N1 GX GT (r 2 _ (by decide)) (.inl rfl) ?_
  intro a d h2 tk2 n1 n2 t1 t2 F2 N2 had off
  clear F1 N1
  k_steps
  rename_i l h3 F3 N3 lt3
  have N4 : News (hideAll s.heap [P, Q]) s.heap.objs.size h3 ((s.heap.objs.size + 1, oC) :: [(P, oP), (Q, oQ), (a, accObj d [] n1), (d, szDict w k t1 t2 n2), (l, listOf ([] : List Value).toArray 0)]) := nsub N3 (by (repeat' refine List.forall_mem_cons.mpr ⟨by k_mem, ?_⟩); intro p hp; first | (cases hp; done) | (repeat (first | exact hp | refine List.Mem.tail _ ?_)))
  clear N3 lt3
  refine store_C F3 N4 hC (nc_of N4 hC ?_) rfl rfl rfl ?_
  · refine List.forall_mem_cons.mpr ⟨?_, List.forall_mem_cons.mpr ⟨?_, List.forall_mem_cons.mpr ⟨?_, List.forall_mem_cons.mpr ⟨?_, List.forall_mem_cons.mpr ⟨?_, fun p hp => nim hp⟩⟩⟩⟩⟩
    · obtain ⟨z, e⟩ := tP.1; rw [e]; exact nc rfl
    · obtain ⟨z, e⟩ := tQ.1; rw [e]; exact nc rfl
    · exact nc rfl
    · exact nc rfl
    · exact nc rfl
  intro h5 oC5 F5 N5 d5
  have N6 : News (hideAll s.heap [P, Q]) s.heap.objs.size h5 [(P, oP), (Q, oQ), (a, accObj d [] n1), (d, szDict w k t1 t2 n2), (l, listOf ([] : List Value).toArray 0), (s.heap.objs.size + 1, oC5)] := nsub N5 (by (repeat' refine List.forall_mem_cons.mpr ⟨by k_mem, ?_⟩); intro p hp; first | (cases hp; done) | (repeat (first | exact hp | refine List.Mem.tail _ ?_)))
  have F6 := fr_mapR (wv := none) (a := a) (dl := dl) (k := k) (tk := tk) F5 rfl rfl rfl rfl
  clear F5 N5 N4 F3
  refine wpAny_execs_cons ?_
  k_dflt (refine' run_loop ?hk7 ?hr7 GX GT (r 9 _ (by decide)) (Nat.lt_of_le_of_lt (show units9 + 3 + 90 ≤ units9 + 110 from ax_un (show 90 ≤ 107 by decide)) huu) rfl F6 N6 d5 tP tQ W.ne W.bare hk0 rfl rfl rfl lG hi hlen hns ?_; (case hk7 => k_is); (case hr7 => exact rfl))
  intro s7 I7 oI7 ps7 k7 wv7 hps7 mn7 hk7 R7
  dsimp only
  k_dflt (refine' run_rest ?hk8 ?hr8 W B D0 (Nat.lt_of_le_of_lt (show dp9 + 10 ≤ dp9 + 12 from Nat.add_le_add_left (by decide) _) hroom) (Nat.lt_of_le_of_lt (show units9 + 100 ≤ units9 + 110 from Nat.add_le_add_left (by decide) _) huu) rfl R7 (Nat.le_succ_of_le hps7) mn7 hk7 ?_; (case hk8 => k_is); (case hr8 => exact rfl))
  intro s8 W8 o8 d8
  exact h s8 W8 o8 d8
end
end Mine
end

section
open PySem PySem.W PyProof.Rows PySem.Calls Builtin Builtin.ObjectAttr
set_option maxRecDepth 100000
set_option maxHeartbeats 4000000
namespace Mine
section
variable {w : World} {A : Around} {s : Shared} {L D : Addr} {m mg mb : Str → Option Value} {mean : ExcName → Option Value} {G : Heap} {k : Int} {E : Value → Shared → Prop} {QQ : Value → Shared → Prop} {env : Env} {ws : List Value} {ns : List Int} {news : List (Addr × Obj)}
theorem tab0_ok {c P : Addr} (hc : codeHdIn (KF w) c P = true) : TabOk w c P (tabObj #[]) := ⟨⟨_, rfl⟩, fun h X e => ⟨#[], codeHd_of_K X hc, e, trivial⟩⟩
theorem law_call {tk : Tok} {c : Nat} (F : Fr G L s.heap m) (N : News G L s.heap news) (hD : (D, listOf ws.toArray c) ∈ news) (hP : (56, tabObj #[]) ∈ news) (hQ : (63, tabObj #[]) ∈ news) (X : (hd.heap_39 w.params).In G) (T : TopV mean mg mb G) (B : Below A G [env] s.heap) (hf : env.frame = some L)
    (hroom : A.depth + 12 < recursionLimit) (huu : A.units + 110 < cLine) (hh : A.handled = none) (hi : IntsAre ws ns) (hlen : ns.length ≤ 12) (hns : ∀ n ∈ ns, 0 ≤ n ∧ n < 1000000) (hk0 : 0 ≤ k ∧ k ≤ 1000) (hg : AllBare s.gens)
    (h : ∀ s', Wd w mean mg mb G 56 63 s' → s'.os = s.os → QQ (.bool true) s') : wpAny (model PySem.Challenge.rw_nb0052_01.row.prog w) A (call (.ref 142) [.int k tk, .ref D]) QQ E s := by
  have tP : TabOk w 60 56 (tabObj #[]) := tab0_ok (by kernel_rfl)
  have tQ : TabOk w 67 63 (tabObj #[]) := tab0_ok (by kernel_rfl)
  have W : Wd w mean mg mb G 56 63 s := wd_of F X T N hP hQ tP tQ (by decide) hg
  refine wpAny_call (run_wd (outer := [env]) W B ?_ hroom huu hh ⟨_, (N _ hD).1, rfl, c, rfl⟩ hi hlen hns hk0 fun s' W' o' _ => h s' W' o')
  intro b hb
  rw [List.filterMap_cons, hf] at hb
  simp only [List.filterMap_nil, List.mem_singleton] at hb
  subst hb
  obtain ⟨o, es, ep, e, hd, _⟩ := F.ns
  exact ⟨o, es, ep, e, hd⟩
theorem old_end {h₁ h' : Heap} (t1 : IsTab h₁ 60 56 #[]) (t2 : IsTab h₁ 67 63 #[]) (t3 : ∃ z, IsTab h' 60 56 z) (t4 : ∃ z, IsTab h' 67 63 z) (k : ∀ b o, b ∉ [56, 63] → h₁.get? b = some o → h'.get? b = some o) : OldK h₁ h' := by
  obtain ⟨z3, t3⟩ := t3
  obtain ⟨z4, t4⟩ := t4
  refine ⟨fun b o e => ?_, fun b o e => ?_⟩
  · by_cases hb : b ∈ [56, 63]
    · simp only [List.mem_cons, List.not_mem_nil, or_false] at hb
      rcases hb with rfl | rfl
      · rw [t1.2.1] at e; cases e
        exact .inr (.inl ⟨(t1.1.tab t1.2.1).isCodeTable, rfl, #[], z3, rfl, by rw [t3.2.1]; simp⟩)
      · rw [t2.2.1] at e; cases e
        exact .inr (.inl ⟨(t2.1.tab t2.2.1).isCodeTable, rfl, #[], z4, rfl, by rw [t4.2.1]; simp⟩)
    · exact .inl (k b o hb e)
  · by_cases hb : b ∈ [56, 63]
    · simp only [List.mem_cons, List.not_mem_nil, or_false] at hb
      rcases hb with rfl | rfl
      · exact ⟨_, t3.2.1⟩
      · exact ⟨_, t4.2.1⟩
    · exact ⟨o, k b o hb e⟩
theorem le12 (m : Nat) : 6 + (min 6 m - 1) ≤ 12 := Nat.add_le_add_left (Nat.le_trans (Nat.sub_le _ _) (Nat.min_le_left _ _)) 6
theorem run_ints {l : List Int} (n : Nat) : (([6, 55, 97, 84, 17, 2] : List Int) ++ List.take n (List.drop 1 (l.map fun a => a.fmod 1000000))).length ≤ 6 + n ∧ ∀ x ∈ ([6, 55, 97, 84, 17, 2] : List Int) ++ List.take n (List.drop 1 (l.map fun a => a.fmod 1000000)), 0 ≤ x ∧ x < 1000000 := by
  refine ⟨by simp; omega, fun x hx => ?_⟩
  rcases List.mem_append.mp hx with h | h
  · simp only [List.mem_cons, List.not_mem_nil, or_false] at h
    rcases h with rfl | rfl | rfl | rfl | rfl | rfl <;> decide
  · obtain ⟨a, _, rfl⟩ := List.mem_map.mp (List.mem_of_mem_drop (List.mem_of_mem_take h))
    exact ⟨Int.fmod_nonneg_of_pos _ (by decide), Int.fmod_lt_of_pos _ (by decide)⟩
end
end Mine
end

section
open PySem PySem.W PyProof.Rows PySem.Calls
set_option maxRecDepth 100000
set_option maxHeartbeats 8000000
namespace Mine
local macro_rules | `(tactic| walk_at "call ref") => `(tactic| (k_here; refine stop1 ?_))
theorem lw : PySem.Challenge.rw_nb0052_01.Holds := by
  refine hd ?_
  k_fill
  intro w s₀ s₁ mg mb G Y fa o pm cd doc dV kV ho hd hcd hD hmg hg args vals as hpre hlay hrd hwl hlo
  have X := km_in_of Y
  have KT := km_tabs_of Y
  clear Y
  have V := (Ground.X G).2
  refine Ground.open G ?_
  intro T B D TE TW
  try (refine guard_noD D (by decide +kernel) ?_; clear D)
  clear hmg TE TW B V
  wrow_args hpre hlay hrd hwl hlo
  have hT9 : TabsAt [(60, 56), (67, 63)] s₁.heap := List.forall_mem_cons.mpr ⟨⟨codeHd_of_K (c := 60) (P := 56) X (by kernel_rfl), KT 56 (by simp)⟩, List.forall_mem_cons.mpr ⟨⟨codeHd_of_K (c := 67) (P := 63) X (by kernel_rfl), KT 63 (by simp)⟩, fun _ h => nomatch h⟩⟩
  clear KT
  refine enter_call ?_
  w_call any ho hd hcd hD T F
  clear hd
  rename_i script _ _ _ _ _ _ _ l ds _ hL0 _ _ _ hI _ hlen _ h1 N
  have l0 := ghost_lt hT9 F
  have X' := ghost_K hT9 X (by kernel_rfl)
  have T' : TopV (ExcName.means s₀.heap) mg mb _ := ghost_top hT9 T
  have K' := ghost_below hT9
  have N' := ghost_news hT9 F N
  have F' := ghost_fr hT9 F
  have L' := ghost_list hT9 hL0
  have kG : ∀ b o, b ∉ [56, 63] → s₁.heap.get? b = some o → (ghostOf s₁.heap [(60, 56), (67, 63)]).get? b = some o := fun b o hb e => ghost_ne e hb
  have oG : ∀ b o, (ghostOf s₁.heap [(60, 56), (67, 63)]).get? b = some o → s₁.heap.get? b = some o := fun b o e => of_hideAll _ e
  clear F N T hD hcd ho hL0 G
  generalize ghostOf s₁.heap [(60, 56), (67, 63)] = G6 at X' T' K' N' F' L' kG oG
  clear X
  k_steps
  rename_i D ws h9 F9 N9 hI9 lt9
  have R9 := run_ints (l := List.filter (fun a' => true) (List.take 63 script)) (min 6 (List.map (fun a => a.fmod 1000000) (List.filter (fun a' => true) (List.take 63 script))).length - 1)
  refine ⟨law_call (c := 0) F9 N9 (.head _) (by simp [tabNews]) (by simp [tabNews]) X' T' (Below.push K' F9) rfl (show callerA.depth + 1 + 12 < recursionLimit by decide) (show callerA.units + 3 + 110 < cLine by decide) rfl hI9 (Nat.le_trans R9.1 (le12 _)) R9.2 ⟨Int.fmod_nonneg_of_pos _ (by decide), Int.le_of_lt (Int.lt_of_lt_of_le (Int.fmod_lt_of_pos _ (by decide)) (by decide))⟩ (by rw [hg]; exact fun _ h => nomatch h) fun s' W' o' => ?_⟩
  refine ⟨.inl ⟨.bool true, .bool true, [], rfl, raisesW_false ?_, .bool true, ?_, unshared_nil⟩, old_end ⟨(hT9 _ (.head _)).1, (hT9 _ (.head _)).2, trivial⟩ ⟨(hT9 _ (.tail _ (.head _))).1, (hT9 _ (.tail _ (.head _))).2, trivial⟩ W'.cP W'.cQ (fun b o hb e => W'.g.keep _ _ (kG b o hb e)), o', W'.bare⟩
  · wrow_none_raised
  · wrow_post
end Mine
end

open PySem PySem.W PyProof.Rows
theorem PySem.Challenge.cw_nb0052_01_holds : PySem.Challenge.rw_nb0052_01.Holds :=
  Mine.lw
