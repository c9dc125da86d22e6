import PyProof.Rows.All
import Wide.All
import OpenK.AllK
import Wide.FinOn
import PySem.Challenge.RW_mr0291_01
set_option Elab.async false
set_option compiler.extract_closed false
namespace Mine

section
open PySem PySem.W PyProof.Rows
set_option maxRecDepth 100000
set_option maxHeartbeats 8000000
theorem said0 : PySem.Challenge.rw_mr0291_01.wellSaid = true := by decide +kernel
theorem law_of (h : PySem.Challenge.rw_mr0291_01.row.Holds) : PySem.Challenge.rw_mr0291_01.Holds := holds_law said0 fun _ => h
set_option synthInstance.maxSize 1 in
open_top hd for PySem.Challenge.rw_mr0291_01.row

end
section
open PySem PySem.W PyProof.Rows
theorem sealQ {α : Type} {M : Model} {A : Around} {t : Sem α} {Q : α → Shared → Prop} {E : Value → Shared → Prop} {s : Shared} (h : let q := Q; wpAny M A t q E s) : wpAny M A t Q E s := h
theorem sealE {α : Type} {M : Model} {A : Around} {t : Sem α} {Q : α → Shared → Prop} {E : Value → Shared → Prop} {s : Shared} (h : let e := E; wpAny M A t Q e s) : wpAny M A t Q E s := h
theorem sealA {α : Type} {M : Model} {A : Around} {t : Sem α} {Q : α → Shared → Prop} {E : Value → Shared → Prop} {s : Shared} (h : let a := A; wpAny M a t Q E s) : wpAny M A t Q E s := h
theorem sealG {P : Prop} (h : ∀ G : Prop, (P → G) → G) : P := h P id
theorem genT {α : Type} {M : Model} {A : Around} {t : Sem α} {Q : α → Shared → Prop} {E : Value → Shared → Prop} {hp : Heap} {g d tk os} (h : ∀ tk, wpAny M A t Q E ⟨hp, g, d, tk, os⟩) : wpAny M A t Q E ⟨hp, g, d, tk, os⟩ := h tk

end
section
open PySem PySem.W PyProof.Rows
set_option maxRecDepth 100000
noncomputable abbrev prog : Program := PySem.Challenge.rw_mr0291_01.row.prog
noncomputable abbrev TopM (s₀ : Shared) (mg mb : Str → Option Value) (h : Heap) : Prop := Top hd.view_1 (looseW hd.view_1 [Str.ofString "_NodeInfo"]) (ExcName.means s₀.heap) mg mb h

noncomputable def putA (d : Addr) (o : Obj) (l : List (Addr × Obj)) : List (Addr × Obj) := l.map fun p => if p.1 = d then (d, o) else p
theorem putA_fst (d : Addr) (o : Obj) (l : List (Addr × Obj)) : (putA d o l).map (·.1) = l.map (·.1) := by
  simp only [putA, List.map_map]
  apply List.map_congr_left
  intro p _
  by_cases h : p.1 = d <;> simp [h]
theorem mem_putA_ne {d b : Addr} {o x : Obj} {l : List (Addr × Obj)} (h : (b, x) ∈ l) (hn : b ≠ d) : (b, x) ∈ putA d o l :=
  List.mem_map.mpr ⟨(b, x), h, by simp [hn]⟩
theorem mem_putA_self {d : Addr} {o x : Obj} {l : List (Addr × Obj)} (h : (d, x) ∈ l) : (d, o) ∈ putA d o l :=
  List.mem_map.mpr ⟨(d, x), h, by simp⟩
theorem upd_putA {d : Addr} {o o' : Obj} : ∀ {l : List (Addr × Obj)}, (l.map (·.1)).Nodup → (d, o) ∈ l → Upd d o o' l (putA d o' l)
  | [], _, h => nomatch h
  | p :: r, hn, h => by
    simp only [List.map_cons, List.nodup_cons, List.mem_map, not_exists, not_and] at hn
    rcases List.mem_cons.mp h with rfl | h
    · have e : putA d o' r = r := by
        unfold putA
        conv => rhs; rw [← List.map_id r]
        apply List.map_congr_left
        intro q hq
        have := hn.1 q hq
        simp [this]
      show Upd d o o' ((d, o) :: r) ((if d = d then (d, o') else (d, o)) :: putA d o' r)
      rw [if_pos rfl, e]
      exact .head fun q hq => hn.1 q hq
    · have hne : p.1 ≠ d := fun e => hn.1 _ h e.symm
      show Upd d o o' (p :: r) ((if p.1 = d then (d, o') else p) :: putA d o' r)
      rw [if_neg hne]
      exact .tail hne (upd_putA hn.2 h)
theorem updF_putA {d : Addr} {o : Obj} : ∀ {l : List (Addr × Obj)}, (l.map (·.1)).Nodup → (d, o) ∈ l → UpdF d o l (fun o' => putA d o' l)
  | [], _, h => nomatch h
  | p :: r, hn, h => by
    simp only [List.map_cons, List.nodup_cons, List.mem_map, not_exists, not_and] at hn
    rcases List.mem_cons.mp h with rfl | h
    · have e : ∀ o', putA d o' r = r := fun o' => by
        unfold putA
        conv => rhs; rw [← List.map_id r]
        apply List.map_congr_left
        intro q hq
        have := hn.1 q hq
        simp [this]
      have e2 : (fun o' => putA d o' ((d, o) :: r)) = fun o' => (d, o') :: r := by
        funext o'
        show (if d = d then (d, o') else (d, o)) :: putA d o' r = _
        rw [if_pos rfl, e]
      rw [e2]
      exact .head fun q hq => hn.1 q hq
    · have hne : p.1 ≠ d := fun e => hn.1 _ h e.symm
      have e2 : (fun o' => putA d o' (p :: r)) = fun o' => p :: putA d o' r := by
        funext o'
        show (if p.1 = d then (d, o') else p) :: putA d o' r = _
        rw [if_neg hne]
      rw [e2]
      exact .tail hne (updF_putA hn.2 h)
theorem ledger_inj {a : Addr} {o o' : Obj} {l : List (Addr × Obj)} (hn : (l.map (·.1)).Nodup) (h : (a, o) ∈ l) (h' : (a, o') ∈ l) : o = o' := by
  induction l with
  | nil => cases h
  | cons p r ih =>
    simp only [List.map_cons, List.nodup_cons, List.mem_map, not_exists, not_and] at hn
    rcases List.mem_cons.mp h with rfl | h1
    · rcases List.mem_cons.mp h' with e | h2
      · exact (Prod.mk.inj e).2.symm
      · exact (hn.1 (a, o') h2 rfl).elim
    · rcases List.mem_cons.mp h' with rfl | h2
      · exact (hn.1 (a, o) h1 rfl).elim
      · exact ih hn.2 h1 h2
noncomputable def adr (p : Addr × Obj) : Nat := p.1
noncomputable def bnd : List (Addr × Obj) → Nat
  | [] => 0
  | p :: r => Nat.max (adr p + 1) (bnd r)
theorem bnd_cons (p : Addr × Obj) (r : List (Addr × Obj)) : bnd (p :: r) = max (adr p + 1) (bnd r) := rfl
theorem bnd_le {d : Nat} : ∀ {l : List (Addr × Obj)}, AllLt d l → bnd l ≤ d
  | [], _ => Nat.zero_le _
  | p :: r, h => by
    have h1 : adr p < d := h.1
    have h2 := bnd_le h.2
    rw [bnd_cons]
    omega
theorem lt_bnd {p : Addr × Obj} : ∀ {l : List (Addr × Obj)}, p ∈ l → adr p < bnd l
  | q :: r, h => by
    rw [bnd_cons]
    rcases List.mem_cons.mp h with rfl | h
    · omega
    · have := lt_bnd h; omega
theorem mem_lt {a : Addr} {o : Obj} {l : List (Addr × Obj)} (h : (a, o) ∈ l) : @LT.lt Nat instLTNat a (bnd l) := lt_bnd h
theorem allLt_bnd {d : Nat} {l : List (Addr × Obj)} : AllLt d l ↔ bnd l ≤ d := ⟨bnd_le, fun h => allLt_of fun p hp => by have := lt_bnd hp; show adr p < d; omega⟩
theorem bnd_ne {x : Nat} {l : List (Addr × Obj)} (h : bnd l ≤ x) : ∀ p ∈ l, p.1 ≠ x := fun p hp e => by have := lt_bnd hp; have e' : adr p = x := e; omega
theorem bnd_fst {l l' : List (Addr × Obj)} (h : l.map (·.1) = l'.map (·.1)) : bnd l = bnd l' := by
  induction l generalizing l' with
  | nil => cases l' with
    | nil => rfl
    | cons => cases h
  | cons p r ih => cases l' with
    | nil => cases h
    | cons q r' =>
      simp only [List.map_cons, List.cons.injEq] at h
      have e : adr p = adr q := h.1
      rw [bnd_cons, bnd_cons, e, ih h.2]
theorem bnd_putA (d : Addr) (o : Obj) (l : List (Addr × Obj)) : bnd (putA d o l) = bnd l := bnd_fst (putA_fst d o l)
theorem bnd_append (l l' : List (Addr × Obj)) : bnd (l ++ l') = max (bnd l) (bnd l') := by
  induction l with
  | nil => show bnd l' = max 0 (bnd l'); omega
  | cons p r ih => rw [List.cons_append, bnd_cons, bnd_cons, ih]; exact (Nat.max_assoc _ _ _).symm
theorem new_le {b : Nat} {x' d' l' : Addr} (b1 : b ≤ d') (b2 : @LT.lt Nat instLTNat d' x') (b3 : @LT.lt Nat instLTNat x' l' ∧ @LT.lt Nat instLTNat d' l' ∧ b ≤ l') : b ≤ x' ∧ b ≤ d' ∧ b ≤ l' := by refine ⟨?_, b1, b3.2.2⟩; show @LE.le Nat _ b x'; omega
theorem bnd_news {h₀ h : Heap} {L : Addr} {l : List (Addr × Obj)} (N : News h₀ L h l) : bnd l ≤ h.objs.size := bnd_le (allLt_of fun p hp => Heap.lt_size (N p hp).1)
theorem nodup_cons_of {p : Addr × Obj} {l : List (Addr × Obj)} (hn : (l.map (·.1)).Nodup) (h : bnd l ≤ adr p) : ((p :: l).map (·.1)).Nodup := by
  rw [List.map_cons, List.nodup_cons]
  refine ⟨fun hm => ?_, hn⟩
  obtain ⟨q, hq, e⟩ := List.mem_map.mp hm
  exact bnd_ne h q hq e
theorem nodup_putA {d : Addr} {o : Obj} {l : List (Addr × Obj)} (hn : (l.map (·.1)).Nodup) : ((putA d o l).map (·.1)).Nodup := by rw [putA_fst]; exact hn

structure NA where
  name : Str
  info : Addr
  idt : Addr
  sl : Addr
noncomputable abbrev infoObj (x : NA) (nt : Tok) (n : Int) (npt : Tok) : Obj := ⟨.ref 47, some x.idt, .plain, #[some (.str x.name nt), some (.int n npt), some (.ref x.sl)]⟩
noncomputable def NA.pair (x : NA) : Str × Value := (x.name, .ref x.info)
noncomputable abbrev sortDict (e1 e2 e3 e4 : Int) (k1 k2 k3 k4 t3 t4 : Tok) (d : Addr) (rv : Value) (npo nfi : Int) : Obj :=
  dictOf [⟨e1, .str (Str.ofString "_node2info") k1, .ref d⟩, ⟨e2, .str (Str.ofString "_ready_nodes") k2, rv⟩, ⟨e3, .str (Str.ofString "_npassedout") k3, .int npo t3⟩, ⟨e4, .str (Str.ofString "_nfinished") k4, .int nfi t4⟩] 4
structure Sorter (w : World) (news : List (Addr × Obj)) (σ σd d : Addr) (nds : List NA) (np : Str → Int) (sc : Str → List Str) (rv : Value) (npo nfi : Int) : Prop where
  inst : (σ, instObj 144 σd) ∈ news
  dict : ∃ e1 e2 e3 e4 k1 k2 k3 k4 t3 t4, (σd, sortDict e1 e2 e3 e4 k1 k2 k3 k4 t3 t4 d rv npo nfi) ∈ news
  n2i : ∃ od : Obj, (d, od) ∈ news ∧ od.IsDictOf (strKind prog w) (nds.map NA.pair)
  lo : (d == sysModules) = false
  info : ∀ x ∈ nds, ∃ nt npt, (x.info, infoObj x nt (np x.name) npt) ∈ news
  idt : ∀ x ∈ nds, (x.idt, dictOf [] 0) ∈ news
  sl : ∀ x ∈ nds, ∃ vs ep, StrsAre vs (sc x.name) ∧ (x.sl, W.listOf vs.toArray ep) ∈ news
  dsd : σd ≠ d
  didt : ∀ x ∈ nds, x.idt ≠ d ∧ x.idt ≠ σd
  sls : (nds.map (·.sl)).Nodup
noncomputable def Kept (S : List Addr) (l l' : List (Addr × Obj)) : Prop := ∀ p ∈ l, p.1 ∉ S → p ∈ l'
theorem Kept.refl (S : List Addr) (l : List (Addr × Obj)) : Kept S l l := fun _ h _ => h
theorem Kept.trans {S : List Addr} {l l' l'' : List (Addr × Obj)} (h : Kept S l l') (h' : Kept S l' l'') : Kept S l l'' := fun p hp hn => h' p (h p hp hn) hn
theorem Kept.mono {S S' : List Addr} {l l' : List (Addr × Obj)} (h : Kept S l l') (hs : ∀ a ∈ S, a ∈ S') : Kept S' l l' := fun p hp hn => h p hp fun e => hn (hs _ e)
theorem Kept.get {S : List Addr} {l l' : List (Addr × Obj)} {a : Addr} {o : Obj} (h : Kept S l l') (hm : (a, o) ∈ l) (hn : a ∉ S) : (a, o) ∈ l' := h _ hm hn
theorem kept_putA {d : Addr} {o : Obj} {l : List (Addr × Obj)} : Kept [d] l (putA d o l) := fun p hp hn => mem_putA_ne (b := p.1) (x := p.2) hp fun e => hn (by rw [e]; exact .head _)
theorem kept_cons {S : List Addr} {l l' : List (Addr × Obj)} {p : Addr × Obj} (h : Kept S l l') : Kept S l (p :: l') := fun q hq hn => .tail _ (h q hq hn)
theorem names_nodup {w : World} {news : List (Addr × Obj)} {σ σd d : Addr} {nds : List NA} {np : Str → Int} {sc : Str → List Str} {rv : Value} {npo nfi : Int} (S : Sorter w news σ σd d nds np sc rv npo nfi) : (nds.map (·.name)).Nodup := by
  obtain ⟨od, _, es, ep, _, _, _, _, h⟩ := S.n2i
  rw [List.map_map] at h
  exact h
theorem valueAt_pair (x : Str) : ∀ nds : List NA, valueAt (nds.map NA.pair) x = (nds.find? fun n => n.name = x).map fun n => Value.ref n.info
  | [] => rfl
  | n :: r => by
    have ih := valueAt_pair x r
    unfold valueAt at ih ⊢
    simp only [List.map_cons, List.find?_cons, NA.pair]
    by_cases h : n.name = x
    · simp [h]
    · simp only [h, decide_false]
      exact ih
theorem stored_pair {x : Str} {nds : List NA} {n : NA} (hn : n.name = x) (h : ∀ m ∈ nds, m.name ≠ x) : stored (nds.map NA.pair) x (.ref n.info) = (nds ++ [n]).map NA.pair := by
  unfold stored
  rw [if_neg]
  · simp [NA.pair, hn]
  · simp only [List.any_map, List.any_eq_true, Function.comp, decide_eq_true_eq, not_exists, not_and]
    exact h

theorem ne_of_cls {a b : Addr} {o o' : Obj} {l : List (Addr × Obj)} (hn : (l.map (·.1)).Nodup) (h : (a, o) ∈ l) (h' : (b, o') ∈ l) (hc : o.cls ≠ o'.cls) : a ≠ b := fun e => by
  subst e
  exact hc (by rw [ledger_inj hn h h'])
theorem dict_cls {w : World} {o : Obj} {kvs : List (Str × Value)} (h : o.IsDictOf (strKind prog w) kvs) : o.cls = .type "dict" := by
  obtain ⟨es, ep, h, _⟩ := h; exact h.1
theorem Sorter.keep {w : World} {l l' : List (Addr × Obj)} {σ σd d : Addr} {nds : List NA} {np : Str → Int} {sc : Str → List Str} {rv : Value} {npo nfi : Int}
    (S : Sorter w l σ σd d nds np sc rv npo nfi) {A : List Addr} (hk : Kept A l l') (h1 : σ ∉ A) (h2 : σd ∉ A) (h3 : d ∉ A) (h4 : ∀ x ∈ nds, x.info ∉ A ∧ x.idt ∉ A ∧ x.sl ∉ A) : Sorter w l' σ σd d nds np sc rv npo nfi where
  inst := hk.get S.inst h1
  dict := by obtain ⟨e1, e2, e3, e4, k1, k2, k3, k4, t3, t4, h⟩ := S.dict; exact ⟨e1, e2, e3, e4, k1, k2, k3, k4, t3, t4, hk.get h h2⟩
  n2i := by obtain ⟨od, h, r⟩ := S.n2i; exact ⟨od, hk.get h h3, r⟩
  lo := S.lo
  info := fun x hx => by obtain ⟨nt, npt, h⟩ := S.info x hx; exact ⟨nt, npt, hk.get h (h4 x hx).1⟩
  idt := fun x hx => hk.get (S.idt x hx) (h4 x hx).2.1
  sl := fun x hx => by obtain ⟨vs, ep, r, h⟩ := S.sl x hx; exact ⟨vs, ep, r, hk.get h (h4 x hx).2.2⟩
  dsd := S.dsd
  didt := S.didt
  sls := S.sls
theorem sorter_new {w : World} {news : List (Addr × Obj)} {σ σd d x' d' l' : Addr} {nds : List NA} {np : Str → Int} {sc : Str → List Str} {rv : Value} {npo nfi : Int} {x : Str} {t npt : Tok} {o' : Obj}
    (S : Sorter w news σ σd d nds np sc rv npo nfi) (hnd : (news.map (·.1)).Nodup) (hfr : ∀ m ∈ nds, m.name ≠ x) (hd' : o'.IsDictOf (strKind prog w) (stored (nds.map NA.pair) x (.ref x')))
    (b1 : bnd news ≤ d') (b2 : @LT.lt Nat instLTNat d' x') (b3 : @LT.lt Nat instLTNat x' l' ∧ @LT.lt Nat instLTNat d' l' ∧ bnd news ≤ l') :
    Sorter w ((l', W.listOf #[] 0) :: (x', ⟨.ref 47, some d', .plain, #[some (.str x t), some (.int 0 npt), some (.ref l')]⟩) :: (d', dictOf [] 0) :: putA d o' news) σ σd d (nds ++ [⟨x, x', d', l'⟩])
      (fun y => if y = x then 0 else np y) (fun y => if y = x then [] else sc y) rv npo nfi := by
  obtain ⟨od, hdd, hod⟩ := S.n2i
  have odc := dict_cls hod
  obtain ⟨e1, e2, e3, e4, k1, k2, k3, k4, t3, t4, hsd⟩ := S.dict
  have far : ∀ {b : Addr} {o : Obj}, (b, o) ∈ news → b ≠ d → (b, o) ∈ ((l', W.listOf #[] 0) :: (x', (⟨.ref 47, some d', .plain, #[some (.str x t), some (.int 0 npt), some (.ref l')]⟩ : Obj)) :: (d', dictOf [] 0) :: putA d o' news) := fun {b o} hm hne =>
    .tail _ (.tail _ (.tail _ (mem_putA_ne hm hne)))
  have hbd := mem_lt hdd
  have hbsd := mem_lt hsd
  refine ⟨far S.inst (ne_of_cls hnd S.inst hdd (by rw [odc]; simp)), ⟨e1, e2, e3, e4, k1, k2, k3, k4, t3, t4, far hsd S.dsd⟩, ⟨o', .tail _ (.tail _ (.tail _ (mem_putA_self hdd))), ?_⟩, S.lo, ?_, ?_, ?_, S.dsd, ?_, ?_⟩
  · rw [← stored_pair (n := ⟨x, x', d', l'⟩) rfl hfr]; exact hd'
  · intro y hy
    rcases List.mem_append.mp hy with hy | hy
    · obtain ⟨nt, npt', h⟩ := S.info y hy
      refine ⟨nt, npt', ?_⟩
      rw [if_neg (hfr y hy)]
      exact far h (ne_of_cls hnd h hdd (by rw [odc]; simp))
    · rw [List.mem_singleton.mp hy]
      refine ⟨t, npt, ?_⟩
      rw [if_pos rfl]
      exact .tail _ (.head _)
  · intro y hy
    rcases List.mem_append.mp hy with hy | hy
    · exact far (S.idt y hy) (S.didt y hy).1
    · rw [List.mem_singleton.mp hy]
      exact .tail _ (.tail _ (.head _))
  · intro y hy
    rcases List.mem_append.mp hy with hy | hy
    · obtain ⟨vs, ep, r, h⟩ := S.sl y hy
      refine ⟨vs, ep, ?_, far h (ne_of_cls hnd h hdd (by rw [odc]; simp))⟩
      rw [if_neg (hfr y hy)]; exact r
    · rw [List.mem_singleton.mp hy]
      refine ⟨[], 0, ?_, .head _⟩
      rw [if_pos rfl]; exact .nil
  · intro y hy
    rcases List.mem_append.mp hy with hy | hy
    · exact S.didt y hy
    · rw [List.mem_singleton.mp hy]
      refine ⟨?_, ?_⟩ <;> (show (d' : Nat) ≠ _; refine neN ?_; omega)
  · rw [List.map_append, List.nodup_append]
    refine ⟨S.sls, by simp, fun p hp q hq e => ?_⟩
    obtain ⟨y, hy, rfl⟩ := List.mem_map.mp hp
    obtain ⟨vs, ep, r, h⟩ := S.sl y hy
    have := mem_lt h
    simp at hq
    subst hq
    rw [e] at this
    omega
theorem nodup_new {news : List (Addr × Obj)} {d x' d' l' : Addr} {ox od ol o' : Obj} (hnd : (news.map (·.1)).Nodup)
    (b1 : bnd news ≤ d') (b2 : @LT.lt Nat instLTNat d' x') (b3 : @LT.lt Nat instLTNat x' l' ∧ @LT.lt Nat instLTNat d' l' ∧ bnd news ≤ l') : (((l', ol) :: (x', ox) :: (d', od) :: putA d o' news).map (·.1)).Nodup := by
  have a1 : adr (d', od) = d' := rfl
  have a2 : adr (x', ox) = x' := rfl
  have a3 : adr (l', ol) = l' := rfl
  refine nodup_cons_of (nodup_cons_of (nodup_cons_of (nodup_putA hnd) ?_) ?_) ?_
  all_goals (simp only [bnd_cons, bnd_putA, a1, a2, a3]; (repeat' (with_reducible refine Nat.max_le.mpr ⟨?_, ?_⟩)) <;> omega)
theorem bnd_new {news : List (Addr × Obj)} {d x' d' l' : Addr} {ox od ol o' : Obj} : bnd news ≤ bnd ((l', ol) :: (x', ox) :: (d', od) :: putA d o' news) := by
  simp only [bnd_cons, bnd_putA]; exact Nat.le_trans (Nat.le_max_right _ _) (Nat.le_trans (Nat.le_max_right _ _) (Nat.le_max_right _ _))

end
open PySem PySem.W PyProof.Rows
local macro_rules | `(tactic| k_mem) => `(tactic| first | exact List.Mem.head _ | ktr_member | (refine' List.mem_cons_of_mem _ ?_; k_mem) | exact mem_putA_self (by k_mem) | (refine' mem_putA_ne ?hm ?hn; (case hm => k_mem); (case hn => k_ne)))
local macro_rules | `(tactic| k_room) => `(tactic| ktr_room)
local macro_rules | `(tactic| k_lt $h:ident) => `(tactic| (replace $h := allLt_of $h; (try simp only [AllLt, and_true] at $h:ident); (try simp only [allLt_bnd, bnd_putA, bnd_append] at $h:ident)))
local macro_rules | `(tactic| k_all) => `(tactic| exact bnd_ne (by (try simp only [bnd_putA]); omega))
local macro_rules | `(tactic| k_upd) => `(tactic| first | (refine' Upd.head ?a; (case a => k_all)) | (refine' Upd.tail ?a ?b; (case a => k_ne); (case b => k_upd)) | exact upd_putA (by first | assumption | exact nodup_putA (by assumption) | exact nodup_putA (nodup_putA (by assumption))) (by k_mem))
local macro_rules | `(tactic| k_updF) => `(tactic| first | (refine' UpdF.head ?a; (case a => k_all)) | (refine' UpdF.tail ?a ?b; (case a => k_ne); (case b => k_updF)) | exact updF_putA (by first | assumption | exact nodup_putA (by assumption) | exact nodup_putA (nodup_putA (by assumption))) (by k_mem))
section
open PySem PySem.W PyProof.Rows
set_option maxRecDepth 100000
theorem inj_of_nodup {α β : Type} {f : α → β} {a b : α} : ∀ {l : List α}, (l.map f).Nodup → a ∈ l → b ∈ l → f a = f b → a = b
  | [], _, h, _, _ => nomatch h
  | c :: r, hn, ha, hb, e => by
    rw [List.map_cons, List.nodup_cons] at hn
    rcases List.mem_cons.mp ha with rfl | ha'
    · rcases List.mem_cons.mp hb with rfl | hb'
      · rfl
      · exact (hn.1 (by rw [e]; exact List.mem_map_of_mem hb')).elim
    · rcases List.mem_cons.mp hb with rfl | hb'
      · exact (hn.1 (by rw [← e]; exact List.mem_map_of_mem ha')).elim
      · exact inj_of_nodup hn.2 ha' hb' e
section
variable {w : World} {l : List (Addr × Obj)} {σ σd d : Addr} {nds : List NA} {np : Str → Int} {sc : Str → List Str} {rv : Value} {npo nfi : Int} {n y : NA}
theorem Sorter.same (S : Sorter w l σ σd d nds np sc rv npo nfi) (hn : n ∈ nds) (hy : y ∈ nds) (e : y.name = n.name) : y = n := inj_of_nodup (names_nodup S) hy hn e
theorem Sorter.infoNe (S : Sorter w l σ σd d nds np sc rv npo nfi) (hnd : (l.map (·.1)).Nodup) (hn : n ∈ nds) (hy : y ∈ nds) (h : y.name ≠ n.name) : y.info ≠ n.info := fun e => by
  obtain ⟨a, b, h1⟩ := S.info n hn
  obtain ⟨a', b', h2⟩ := S.info y hy
  rw [e] at h2
  have := ledger_inj hnd h1 h2
  simp only [Obj.mk.injEq, infoObj] at this
  have := this.2.2.2
  simp at this
  exact h this.1.1.symm
theorem sorter_np (S : Sorter w l σ σd d nds np sc rv npo nfi) (hnd : (l.map (·.1)).Nodup) (hn : n ∈ nds) (nt npt : Tok) (v : Int) :
    Sorter w (putA n.info (infoObj n nt v npt) l) σ σd d nds (fun z => if z = n.name then v else np z) sc rv npo nfi := by
  obtain ⟨nt₀, npt₀, hn₀⟩ := S.info n hn
  obtain ⟨od, hdd, hod⟩ := S.n2i
  have odc := dict_cls hod
  obtain ⟨e1, e2, e3, e4, k1, k2, k3, k4, t3, t4, hsd⟩ := S.dict
  refine ⟨mem_putA_ne S.inst (ne_of_cls hnd S.inst hn₀ (by simp)), ⟨e1, e2, e3, e4, k1, k2, k3, k4, t3, t4, mem_putA_ne hsd (ne_of_cls hnd hsd hn₀ (by simp))⟩,
    ⟨od, mem_putA_ne hdd (ne_of_cls hnd hdd hn₀ (by rw [odc]; simp)), hod⟩, S.lo, fun y hy => ?_, fun y hy => mem_putA_ne (S.idt y hy) (ne_of_cls hnd (S.idt y hy) hn₀ (by simp)), fun y hy => ?_, S.dsd, S.didt, S.sls⟩
  · by_cases e : y.name = n.name
    · obtain rfl := S.same hn hy e
      rw [if_pos rfl]
      exact ⟨nt, npt, mem_putA_self hn₀⟩
    · obtain ⟨a, b, h⟩ := S.info y hy
      rw [if_neg e]
      exact ⟨a, b, mem_putA_ne h (S.infoNe hnd hn hy e)⟩
  · obtain ⟨vs, ep, r, h⟩ := S.sl y hy
    exact ⟨vs, ep, r, mem_putA_ne h (ne_of_cls hnd h hn₀ (by simp))⟩
theorem sorter_npN {g h : Heap} {L : Addr} {nt npt : Tok} {v : Int} (_ : News g L h (putA n.info (infoObj n nt v npt) l)) (S : Sorter w l σ σd d nds np sc rv npo nfi) (hnd : (l.map (·.1)).Nodup) (hn : n ∈ nds) :
    Sorter w (putA n.info (infoObj n nt v npt) l) σ σd d nds (fun z => if z = n.name then v else np z) sc rv npo nfi := sorter_np S hnd hn nt npt v
theorem sorter_sc (S : Sorter w l σ σd d nds np sc rv npo nfi) (hnd : (l.map (·.1)).Nodup) (hn : n ∈ nds) {vs : List Value} {ss : List Str} (ep : Nat) (hvs : StrsAre vs ss) :
    Sorter w (putA n.sl (W.listOf vs.toArray ep) l) σ σd d nds np (fun z => if z = n.name then ss else sc z) rv npo nfi := by
  obtain ⟨vs₀, ep₀, _, hn₀⟩ := S.sl n hn
  obtain ⟨od, hdd, hod⟩ := S.n2i
  have odc := dict_cls hod
  obtain ⟨e1, e2, e3, e4, k1, k2, k3, k4, t3, t4, hsd⟩ := S.dict
  refine ⟨mem_putA_ne S.inst (ne_of_cls hnd S.inst hn₀ (by simp)), ⟨e1, e2, e3, e4, k1, k2, k3, k4, t3, t4, mem_putA_ne hsd (ne_of_cls hnd hsd hn₀ (by simp))⟩,
    ⟨od, mem_putA_ne hdd (ne_of_cls hnd hdd hn₀ (by rw [odc]; simp)), hod⟩, S.lo, fun y hy => ?_, fun y hy => mem_putA_ne (S.idt y hy) (ne_of_cls hnd (S.idt y hy) hn₀ (by simp)), fun y hy => ?_, S.dsd, S.didt, S.sls⟩
  · obtain ⟨a, b, h⟩ := S.info y hy
    exact ⟨a, b, mem_putA_ne h (ne_of_cls hnd h hn₀ (by simp))⟩
  · by_cases e : y.name = n.name
    · obtain rfl := S.same hn hy e
      rw [if_pos rfl]
      exact ⟨vs, ep, hvs, mem_putA_self hn₀⟩
    · obtain ⟨vs', ep', r, h⟩ := S.sl y hy
      rw [if_neg e]
      exact ⟨vs', ep', r, mem_putA_ne h fun e' => e (congrArg NA.name (inj_of_nodup S.sls hy hn e'))⟩
theorem Sorter.cons (S : Sorter w l σ σd d nds np sc rv npo nfi) (p : Addr × Obj) : Sorter w (p :: l) σ σd d nds np sc rv npo nfi :=
  S.keep (A := []) (kept_cons (Kept.refl _ _)) (fun h => nomatch h) (fun h => nomatch h) (fun h => nomatch h) fun _ _ => ⟨fun h => (nomatch h), fun h => (nomatch h), fun h => (nomatch h)⟩
theorem Sorter.info_d (S : Sorter w l σ σd d nds np sc rv npo nfi) (hnd : (l.map (·.1)).Nodup) (hn : n ∈ nds) : n.info ≠ d := by
  obtain ⟨nt₀, npt₀, hn₀⟩ := S.info n hn
  obtain ⟨od, hdd, hod⟩ := S.n2i
  exact ne_of_cls hnd hn₀ hdd (by rw [dict_cls hod]; simp)
theorem Sorter.sl_d (S : Sorter w l σ σd d nds np sc rv npo nfi) (hnd : (l.map (·.1)).Nodup) (hn : n ∈ nds) : n.sl ≠ d := by
  obtain ⟨vs₀, ep₀, _, hn₀⟩ := S.sl n hn
  obtain ⟨od, hdd, hod⟩ := S.n2i
  exact ne_of_cls hnd hn₀ hdd (by rw [dict_cls hod]; simp)
end
noncomputable def Off (σ σd d : Addr) (nds : List NA) (rest : List (Addr × Obj)) : Prop := ∀ p ∈ rest, p.1 ≠ σ ∧ p.1 ≠ σd ∧ p.1 ≠ d ∧ ∀ x ∈ nds, p.1 ≠ x.info ∧ p.1 ≠ x.idt ∧ p.1 ≠ x.sl
theorem Sorter.offI {w : World} {l : List (Addr × Obj)} {σ σd d : Addr} {nds : List NA} {np : Str → Int} {sc : Str → List Str} {rv : Value} {npo nfi : Int} {I : Addr} (S : Sorter w l σ σd d nds np sc rv npo nfi) (hI : I ∉ l.map (·.1)) :
    I ≠ σ ∧ I ≠ σd ∧ I ≠ d ∧ ∀ x ∈ nds, I ≠ x.info ∧ I ≠ x.idt ∧ I ≠ x.sl := by
  obtain ⟨od, hdd, _⟩ := S.n2i
  obtain ⟨e1, e2, e3, e4, k1, k2, k3, k4, t3, t4, hsd⟩ := S.dict
  have ne : ∀ {a : Addr} {o : Obj}, (a, o) ∈ l → I ≠ a := fun hm e => hI (by rw [e]; exact List.mem_map.mpr ⟨_, hm, rfl⟩)
  refine ⟨ne S.inst, ne hsd, ne hdd, fun x hx => ?_⟩
  obtain ⟨_, _, h1⟩ := S.info x hx
  obtain ⟨_, _, _, h2⟩ := S.sl x hx
  exact ⟨ne h1, ne (S.idt x hx), ne h2⟩
structure SR (w : World) (l : List (Addr × Obj)) (σ σd d : Addr) (nds : List NA) (np : Str → Int) (sc : Str → List Str) (rv : Value) (npo nfi : Int) (rest : List (Addr × Obj)) : Prop where
  S : Sorter w l σ σd d nds np sc rv npo nfi
  sub : ∀ p ∈ rest, p ∈ l
  off : Off σ σd d nds rest
section
variable {w : World} {l l' : List (Addr × Obj)} {σ σd d : Addr} {nds nds' : List NA} {np : Str → Int} {sc : Str → List Str} {rv : Value} {npo nfi : Int} {n y : NA} {rest : List (Addr × Obj)} {x : Str}
theorem ne_of_lt' {a b : Nat} (h : a < b) : b ≠ a := fun e => absurd h (e ▸ Nat.lt_irrefl _)
theorem SR.cons (R : SR w l σ σd d nds np sc rv npo nfi rest) (p : Addr × Obj) (h : bnd l ≤ adr p) : SR w (p :: l) σ σd d nds np sc rv npo nfi (p :: rest) := by
  obtain ⟨od, hdd, _⟩ := R.S.n2i
  obtain ⟨e1, e2, e3, e4, k1, k2, k3, k4, t3, t4, hsd⟩ := R.S.dict
  have lt : ∀ {a : Addr} {o : Obj}, (a, o) ∈ l → p.1 ≠ a := fun hm => ne_of_lt' (Nat.lt_of_lt_of_le (mem_lt hm) h)
  refine ⟨R.S.cons p, fun q hq => ?_, fun q hq => ?_⟩
  · rcases List.mem_cons.mp hq with rfl | hq
    · exact .head _
    · exact .tail _ (R.sub q hq)
  · rcases List.mem_cons.mp hq with rfl | hq
    · refine ⟨lt R.S.inst, lt hsd, lt hdd, fun x hx => ?_⟩
      obtain ⟨_, _, h1⟩ := R.S.info x hx
      obtain ⟨_, _, _, h2⟩ := R.S.sl x hx
      exact ⟨lt h1, lt (R.S.idt x hx), lt h2⟩
    · exact R.off q hq
theorem SR.consI {I : Addr} {io : Obj} (R : SR w l σ σd d nds np sc rv npo nfi rest) (hI : I ∉ l.map (·.1)) : SR w ((I, io) :: l) σ σd d nds np sc rv npo nfi ((I, io) :: rest) := by
  refine ⟨R.S.cons (I, io), fun p hp => ?_, fun p hp => ?_⟩
  · rcases List.mem_cons.mp hp with rfl | hp
    · exact .head _
    · exact .tail _ (R.sub p hp)
  · rcases List.mem_cons.mp hp with rfl | hp
    · exact R.S.offI hI
    · exact R.off p hp
theorem SR.gni (R : SR w l σ σd d nds np sc rv npo nfi rest) {np' : Str → Int} {sc' : Str → List Str} (S' : Sorter w l' σ σd d nds' np' sc' rv npo nfi) (hK : Kept [d] l l')
    (hc : nds' = nds ∨ ((∀ m ∈ nds, m.name ≠ x) ∧ nds' = nds ++ [n] ∧ bnd l ≤ n.info ∧ bnd l ≤ n.idt ∧ bnd l ≤ n.sl)) : SR w l' σ σd d nds' np' sc' rv npo nfi rest := by
  refine ⟨S', fun p hp => hK p (R.sub p hp) fun e => (R.off p hp).2.2.1 (List.mem_singleton.mp e), fun p hp => ?_⟩
  obtain ⟨a, b, c, e⟩ := R.off p hp
  refine ⟨a, b, c, fun x hx => ?_⟩
  rcases hc with rfl | ⟨_, rfl, h1, h2, h3⟩
  · exact e x hx
  · rcases List.mem_append.mp hx with hx | hx
    · exact e x hx
    · rw [List.mem_singleton.mp hx]
      have hl : @LT.lt Nat instLTNat p.1 (bnd l) := lt_bnd (R.sub p hp)
      exact ⟨(ne_of_lt' (Nat.lt_of_lt_of_le hl h1)).symm, (ne_of_lt' (Nat.lt_of_lt_of_le hl h2)).symm, (ne_of_lt' (Nat.lt_of_lt_of_le hl h3)).symm⟩
theorem SR.setNp {g h : Heap} {L : Addr} {nt npt : Tok} {v : Int} (R : SR w l σ σd d nds np sc rv npo nfi rest) (N : News g L h (putA n.info (infoObj n nt v npt) l)) (hnd : (l.map (·.1)).Nodup) (hn : n ∈ nds) :
    SR w (putA n.info (infoObj n nt v npt) l) σ σd d nds (fun z => if z = n.name then v else np z) sc rv npo nfi rest :=
  ⟨sorter_npN N R.S hnd hn, fun p hp => mem_putA_ne (b := p.1) (x := p.2) (R.sub p hp) ((R.off p hp).2.2.2 n hn).1, R.off⟩
theorem SR.setSc {vs : List Value} {ss : List Str} {ep : Nat} (R : SR w l σ σd d nds np sc rv npo nfi rest) (hnd : (l.map (·.1)).Nodup) (hn : n ∈ nds) (hvs : StrsAre vs ss) :
    SR w (putA n.sl (W.listOf vs.toArray ep) l) σ σd d nds np (fun z => if z = n.name then ss else sc z) rv npo nfi rest :=
  ⟨sorter_sc R.S hnd hn ep hvs, fun p hp => mem_putA_ne (b := p.1) (x := p.2) (R.sub p hp) ((R.off p hp).2.2.2 n hn).2.2, R.off⟩
noncomputable def dropA (I : Addr) (l : List (Addr × Obj)) : List (Addr × Obj) := l.filter fun p => p.1 != I
theorem mem_dropA {I : Addr} {l : List (Addr × Obj)} {p : Addr × Obj} : p ∈ dropA I l ↔ p ∈ l ∧ p.1 ≠ I := by simp [dropA]
theorem nodup_dropA {I : Addr} {io : Obj} {l : List (Addr × Obj)} (hn : (l.map (·.1)).Nodup) : (((I, io) :: dropA I l).map (·.1)).Nodup := by
  rw [List.map_cons, List.nodup_cons]
  refine ⟨fun hm => ?_, ?_⟩
  · obtain ⟨q, hq, e⟩ := List.mem_map.mp hm
    exact (mem_dropA.mp hq).2 e
  · exact hn.sublist ((List.filter_sublist).map _)
theorem News.sub {g h : Heap} {L : Addr} {l l' : List (Addr × Obj)} (N : News g L h l) (hs : ∀ p ∈ l', p ∈ l) : News g L h l' := fun p hp => N p (hs p hp)
theorem dropA_sub {I : Addr} {io : Obj} {l : List (Addr × Obj)} (h : (I, io) ∈ l) : ∀ p ∈ (I, io) :: dropA I l, p ∈ l := fun p hp => by
  rcases List.mem_cons.mp hp with rfl | hp
  · exact h
  · exact (mem_dropA.mp hp).1
theorem SR.drop {I : Addr} {io : Obj} (R : SR w l σ σd d nds np sc rv npo nfi ((I, io) :: rest)) (hr : ∀ p ∈ rest, p.1 ≠ I) : SR w (dropA I l) σ σd d nds np sc rv npo nfi rest := by
  obtain ⟨a, b, c, e⟩ := R.off _ (.head _)
  refine ⟨R.S.keep (A := [I]) (fun p hp hn => mem_dropA.mpr ⟨hp, fun q => hn (by rw [q]; exact .head _)⟩) ?_ ?_ ?_ ?_, fun p hp => mem_dropA.mpr ⟨R.sub p (.tail _ hp), hr p hp⟩, fun p hp => R.off p (.tail _ hp)⟩
  · exact fun q => a (List.mem_singleton.mp q).symm
  · exact fun q => b (List.mem_singleton.mp q).symm
  · exact fun q => c (List.mem_singleton.mp q).symm
  · exact fun x hx => ⟨fun q => (e x hx).1 (List.mem_singleton.mp q).symm, fun q => (e x hx).2.1 (List.mem_singleton.mp q).symm, fun q => (e x hx).2.2 (List.mem_singleton.mp q).symm⟩
theorem SR.putRest {b : Addr} {o o' : Obj} (R : SR w l σ σd d nds np sc rv npo nfi ((b, o) :: rest)) (hr : ∀ p ∈ rest, p.1 ≠ b) : SR w (putA b o' l) σ σd d nds np sc rv npo nfi ((b, o') :: rest) := by
  obtain ⟨a, b', c, e⟩ := R.off _ (.head _)
  refine ⟨R.S.keep (A := [b]) kept_putA (fun q => a (List.mem_singleton.mp q).symm) (fun q => b' (List.mem_singleton.mp q).symm) (fun q => c (List.mem_singleton.mp q).symm)
    (fun x hx => ⟨fun q => (e x hx).1 (List.mem_singleton.mp q).symm, fun q => (e x hx).2.1 (List.mem_singleton.mp q).symm, fun q => (e x hx).2.2 (List.mem_singleton.mp q).symm⟩), fun p hp => ?_, fun p hp => ?_⟩
  · rcases List.mem_cons.mp hp with rfl | hp
    · exact mem_putA_self (R.sub _ (.head _))
    · exact mem_putA_ne (b := p.1) (x := p.2) (R.sub p (.tail _ hp)) (hr p hp)
  · rcases List.mem_cons.mp hp with rfl | hp
    · exact R.off (b, o) (.head _)
    · exact R.off p (.tail _ hp)
theorem SR.setDict {e1 e2 e3 e4 : Int} {k1 k2 k3 k4 t3 t4 : Tok} {rv' : Value} {npo' nfi' : Int} {g h : Heap} {L : Addr} (R : SR w l σ σd d nds np sc rv npo nfi rest) (_ : News g L h (putA σd (sortDict e1 e2 e3 e4 k1 k2 k3 k4 t3 t4 d rv' npo' nfi') l)) (hnd : (l.map (·.1)).Nodup) :
    SR w (putA σd (sortDict e1 e2 e3 e4 k1 k2 k3 k4 t3 t4 d rv' npo' nfi') l) σ σd d nds np sc rv' npo' nfi' rest := by
  obtain ⟨od, hdd, hod⟩ := R.S.n2i
  obtain ⟨e1', e2', e3', e4', k1', k2', k3', k4', t3', t4', hsd⟩ := R.S.dict
  refine ⟨⟨mem_putA_ne R.S.inst (ne_of_cls hnd R.S.inst hsd (by simp)), ⟨e1, e2, e3, e4, k1, k2, k3, k4, t3, t4, mem_putA_self hsd⟩, ⟨od, mem_putA_ne hdd R.S.dsd.symm, hod⟩, R.S.lo, fun x hx => ?_, fun x hx => mem_putA_ne (R.S.idt x hx) (R.S.didt x hx).2, fun x hx => ?_, R.S.dsd, R.S.didt, R.S.sls⟩,
    fun p hp => mem_putA_ne (b := p.1) (x := p.2) (R.sub p hp) (R.off p hp).2.1, R.off⟩
  · obtain ⟨a, b, h1⟩ := R.S.info x hx
    exact ⟨a, b, mem_putA_ne h1 (ne_of_cls hnd h1 hsd (by simp))⟩
  · obtain ⟨a, b, r, h1⟩ := R.S.sl x hx
    exact ⟨a, b, r, mem_putA_ne h1 (ne_of_cls hnd h1 hsd (by simp))⟩
theorem SR.less {rest' : List (Addr × Obj)} (R : SR w l σ σd d nds np sc rv npo nfi rest) (h : ∀ p ∈ rest', p ∈ rest) : SR w l σ σd d nds np sc rv npo nfi rest' := ⟨R.S, fun p hp => R.sub p (h p hp), fun p hp => R.off p (h p hp)⟩
end
noncomputable def ins (l : List Str) (x : Str) : List Str := if x ∈ l then l else l ++ [x]
theorem names_ins {l : List (Addr × Obj)} {nds nds' : List NA} {n : NA} {x : Str} (hn : n ∈ nds') (hx : n.name = x) (hc : nds' = nds ∨ ((∀ m ∈ nds, m.name ≠ x) ∧ nds' = nds ++ [n] ∧ bnd l ≤ n.info ∧ bnd l ≤ n.idt ∧ bnd l ≤ n.sl)) : nds'.map (·.name) = ins (nds.map (·.name)) x := by
  unfold ins
  rcases hc with rfl | ⟨h, rfl, _⟩
  · rw [if_pos (List.mem_map.mpr ⟨n, hn, hx⟩)]
  · rw [if_neg (fun hm => by obtain ⟨m, hm, e⟩ := List.mem_map.mp hm; exact h m hm e)]
    simp [hx]
theorem strs_snoc {vs : List Value} {ys : List Str} (h : StrsAre vs ys) (y : Str) (t : Tok) : StrsAre (vs ++ [.str y t]) (ys ++ [y]) := by
  induction h with
  | nil => exact .cons y t .nil
  | cons z u _ ih => exact .cons z u ih
theorem strs_get {vs : List Value} {ys : List Str} (h : StrsAre vs ys) : ∀ {i : Nat} {v : Value}, vs[i]? = some v → ∃ r t, ys[i]? = some r ∧ v = .str r t := by
  induction h with
  | nil => intro i v e; simp at e
  | cons z u _ ih =>
    intro i v e
    cases i with
    | zero => simp at e; exact ⟨z, u, rfl, e.symm⟩
    | succ i => simp at e; simpa using ih e
theorem take_mem {α : Type} {l : List α} {i : Nat} {r z : α} (h : l[i]? = some r) : z ∈ l.take (i + 1) ↔ z ∈ l.take i ∨ z = r := by
  rw [List.take_add_one, h]; simp
noncomputable def SameBut1 (x : Str) (m m₀ : Str → Option Value) : Prop := ∀ y, y ≠ x → m y = m₀ y
theorem SameBut1.refl (x : Str) (m : Str → Option Value) : SameBut1 x m m := fun _ _ => rfl
theorem map_set {x : Str} {v : Option Value} {m m₀ : Str → Option Value} (h : SameBut1 x m m₀) : (fun y => if y = x then v else m y) = fun y => if y = x then v else m₀ y := by
  funext y
  by_cases e : y = x
  · rw [if_pos e, if_pos e]
  · rw [if_neg e, if_neg e, h y e]
theorem SameBut1.set {x : Str} {v : Option Value} {m₀ : Str → Option Value} : SameBut1 x (fun y => if y = x then v else m₀ y) m₀ := fun _ h => if_neg h
theorem fr_same {g h : Heap} {L : Addr} {x : Str} {m m₀ : Str → Option Value} (F : Fr g L h m) (hs : SameBut1 x m m₀) : Fr g L h (fun y => if y = x then m x else m₀ y) := by
  have e : m = fun y => if y = x then m x else m₀ y := by
    funext y
    by_cases q : y = x
    · rw [if_pos q, q]
    · rw [if_neg q, hs y q]
  rw [← e]; exact F
theorem nodupI_putA {I a : Addr} {io o : Obj} {l : List (Addr × Obj)} (h : (((I, io) :: l).map (·.1)).Nodup) : (((I, io) :: putA a o l).map (·.1)).Nodup := by
  rw [List.map_cons, putA_fst]; exact h
theorem np_take {rs : List Str} {i : Nat} {r : Str} {v : Int} {np : Str → Int} (h : rs[i]? = some r) : (fun z => if z = r then v else if z ∈ rs.take i then v else np z) = fun z => if z ∈ rs.take (i + 1) then v else np z := by
  funext z
  by_cases e : z = r
  · rw [if_pos e, if_pos ((take_mem h).mpr (.inr e))]
  · rw [if_neg e]
    by_cases q : z ∈ rs.take i
    · rw [if_pos q, if_pos ((take_mem h).mpr (.inl q))]
    · rw [if_neg q, if_neg fun x => ((take_mem h).mp x).elim q e]
theorem Sorter.at {w : World} {l : List (Addr × Obj)} {σ σd d : Addr} {nds : List NA} {np : Str → Int} {sc : Str → List Str} {rv : Value} {npo nfi : Int} {n : NA} (S : Sorter w l σ σd d nds np sc rv npo nfi) (hn : n ∈ nds) : valueAt (nds.map NA.pair) n.name = some (.ref n.info) := by
  rw [valueAt_pair]
  cases hf : nds.find? fun m => m.name = n.name with
  | none => exact absurd (List.find?_eq_none.mp hf n hn) (by simp)
  | some m =>
    have h1 := List.mem_of_find?_eq_some hf
    have h2 : m.name = n.name := by simpa using List.find?_some hf
    rw [S.same hn h1 h2]; rfl
theorem neI {I : Addr} {io : Obj} {l : List (Addr × Obj)} (h : (((I, io) :: l).map (·.1)).Nodup) {a : Addr} {o : Obj} (hm : (a, o) ∈ l) : @Ne Nat I a := fun e => (List.nodup_cons.mp h).1 (by show I ∈ l.map (·.1); rw [show I = a from e]; exact List.mem_map.mpr ⟨_, hm, rfl⟩)
theorem strs_len {vs : List Value} {ys : List Str} (h : StrsAre vs ys) : vs.length = ys.length := by
  induction h with
  | nil => rfl
  | cons z u _ ih => simp [ih]

end
section
open PySem PySem.W PyProof.Rows
set_option maxRecDepth 100000
noncomputable def SameL (xs : List Str) (m m₀ : Str → Option Value) : Prop := ∀ y, y ∉ xs → m y = m₀ y
noncomputable def canon (xs : List Str) (m m₀ : Str → Option Value) : Str → Option Value := xs.foldr (fun x f => fun y => if y = x then m x else f y) m₀
theorem SameL.refl (xs : List Str) (m : Str → Option Value) : SameL xs m m := fun _ _ => rfl
theorem SameL.eq {xs : List Str} {m m₀ : Str → Option Value} (h : SameL xs m m₀) : m = canon xs m m₀ := by
  funext y
  have key : ∀ l : List Str, (∀ z, z ∈ l → z ∈ xs) → (y ∉ l → m y = m₀ y) → m y = canon l m m₀ y := by
    intro l
    induction l with
    | nil => intro _ h2; exact h2 (by simp)
    | cons a r ih =>
      intro h1 h2
      show m y = if y = a then m a else canon r m m₀ y
      by_cases e : y = a
      · rw [if_pos e, e]
      · rw [if_neg e]
        exact ih (fun z hz => h1 z (.tail _ hz)) fun hr => h2 (by simp [e, hr])
  exact key xs (fun _ h => h) (h y)
theorem SameL.canon (xs : List Str) (m m₀ : Str → Option Value) : SameL xs (canon xs m m₀) m₀ := by
  intro y hy
  induction xs with
  | nil => rfl
  | cons a r ih =>
    show (if y = a then m a else Mine.canon r m m₀ y) = m₀ y
    rw [if_neg fun e => hy (by rw [e]; exact .head _)]
    exact ih fun h => hy (.tail _ h)
theorem SameL.set {xs : List Str} {x : Str} {v : Option Value} {m m₀ : Str → Option Value} (hx : x ∈ xs) (h : SameL xs m m₀) : SameL xs (fun y => if y = x then v else m y) m₀ := fun y hy => by
  show (if y = x then v else m y) = m₀ y
  rw [if_neg fun e => hy (by rw [e]; exact hx)]
  exact h y hy
theorem SameL.trans {xs : List Str} {m m₁ m₀ : Str → Option Value} (h : SameL xs m m₁) (h' : SameL xs m₁ m₀) : SameL xs m m₀ := fun y hy => (h y hy).trans (h' y hy)
theorem SameL.mono {xs xs' : List Str} {m m₀ : Str → Option Value} (h : SameL xs m m₀) (hs : ∀ x ∈ xs, x ∈ xs') : SameL xs' m m₀ := fun y hy => h y fun e => hy (hs _ e)
theorem fr_sameL {g h : Heap} {L : Addr} {xs : List Str} {m m₀ : Str → Option Value} (F : Fr g L h m) (hs : SameL xs m m₀) : Fr g L h (canon xs m m₀) := by rw [← hs.eq]; exact F
theorem fr_sameL1 {g h : Heap} {L : Addr} {xs : List Str} {x : Str} {v : Option Value} {m m₀ : Str → Option Value} (F : Fr g L h (fun y => if y = x then v else m y)) (hs : SameL xs m m₀) : Fr g L h (fun y => if y = x then v else canon xs m m₀ y) := by rw [← hs.eq]; exact F

noncomputable def dec1 (st : (Str → Int) × List Str) (z : Str) : (Str → Int) × List Str := (fun y => if y = z then st.1 z - 1 else st.1 y, if st.1 z - 1 = 0 then st.2 ++ [z] else st.2)
noncomputable def decAll (l : List Str) (st : (Str → Int) × List Str) : (Str → Int) × List Str := l.foldl dec1 st
noncomputable def fin1 (sc : Str → List Str) (st : (Str → Int) × List Str) (r : Str) : (Str → Int) × List Str := decAll (sc r) (fun y => if y = r then -2 else st.1 y, st.2)
noncomputable def finAll (sc : Str → List Str) (l : List Str) (st : (Str → Int) × List Str) : (Str → Int) × List Str := l.foldl (fin1 sc) st
theorem decAll_take {l : List Str} {i : Nat} {z : Str} (h : l[i]? = some z) (st : (Str → Int) × List Str) : decAll (l.take (i + 1)) st = dec1 (decAll (l.take i) st) z := by
  unfold decAll; rw [List.take_add_one, h, List.foldl_append]; rfl
theorem finAll_take {sc : Str → List Str} {l : List Str} {i : Nat} {z : Str} (h : l[i]? = some z) (st : (Str → Int) × List Str) : finAll sc (l.take (i + 1)) st = fin1 sc (finAll sc (l.take i) st) z := by
  unfold finAll; rw [List.take_add_one, h, List.foldl_append]; rfl
theorem dec1_len (st : (Str → Int) × List Str) (z : Str) : (dec1 st z).2.length ≤ st.2.length + 1 := by
  unfold dec1; dsimp only; split <;> simp
theorem decAll_len (l : List Str) : ∀ st : (Str → Int) × List Str, (decAll l st).2.length ≤ st.2.length + l.length := by
  induction l with
  | nil => intro st; exact Nat.le_refl _
  | cons a r ih => intro st; have h1 := ih (dec1 st a); have h2 := dec1_len st a; show (decAll r (dec1 st a)).2.length ≤ _; simp only [List.length_cons]; omega
theorem finAll_len {sc : Str → List Str} {b : Nat} (hb : ∀ z, (sc z).length ≤ b) (l : List Str) : ∀ st : (Str → Int) × List Str, (finAll sc l st).2.length ≤ st.2.length + b * l.length := by
  induction l with
  | nil => intro st; exact Nat.le_refl _
  | cons a r ih =>
    intro st
    have h1 := ih (fin1 sc st a)
    have h2 := decAll_len (sc a) (fun y => if y = a then -2 else st.1 y, st.2)
    have h3 := hb a
    show (finAll sc r (fin1 sc st a)).2.length ≤ _
    have h4 : (fin1 sc st a).2.length ≤ st.2.length + (sc a).length := h2
    rw [List.length_cons, Nat.mul_add, Nat.mul_one]
    omega

end
section
open PySem PySem.W PyProof.Rows PySem.Spec
set_option maxRecDepth 100000
section
variable {A : Around} {E : Value → Shared → Prop} {s : Shared} {env : Env} {h₀ : Heap} {P : Program} {w : World}
noncomputable def TurnEnd (h₀ : Heap) (L : Addr) (I : Addr) (io : Obj) (keep : List (Addr × Obj)) (J : (Str → Option Value) → List (Addr × Obj) → Prop) (s₁ : Shared) (Q : Flow → Shared → Prop) (f : Flow) (s₂ : Shared) : Prop :=
  match f with
  | .ret v => Q (.ret v) s₂
  | .brk => Q .next s₂
  | _ => ∃ h' tk m' news', s₂ = { s₁ with heap := h', toks := tk } ∧ Fr h₀ L h' m' ∧ News h₀ L h' ((I, io) :: news') ∧ (((I, io) :: news').map (·.1)).Nodup ∧ (∀ p ∈ keep, p ∈ news') ∧ J m' news'
theorem TurnEnd.go {L : Addr} {I : Addr} {io : Obj} {keep : List (Addr × Obj)} {J : (Str → Option Value) → List (Addr × Obj) → Prop} {s₁ : Shared} {Q : Flow → Shared → Prop} {h' : Heap} {tk : Nat} {m' : Str → Option Value} {news' : List (Addr × Obj)}
    (F : Fr h₀ L h' m') (N : News h₀ L h' ((I, io) :: news')) (hn : (((I, io) :: news').map (·.1)).Nodup) (hk : ∀ p ∈ keep, p ∈ news') (hJ : J m' news') : TurnEnd h₀ L I io keep J s₁ Q .next { s₁ with heap := h', toks := tk } := ⟨h', tk, m', news', rfl, F, N, hn, hk, hJ⟩
theorem TurnEnd.cont {L : Addr} {I : Addr} {io : Obj} {keep : List (Addr × Obj)} {J : (Str → Option Value) → List (Addr × Obj) → Prop} {s₁ : Shared} {Q : Flow → Shared → Prop} {h' : Heap} {tk : Nat} {m' : Str → Option Value} {news' : List (Addr × Obj)}
    (F : Fr h₀ L h' m') (N : News h₀ L h' ((I, io) :: news')) (hn : (((I, io) :: news').map (·.1)).Nodup) (hk : ∀ p ∈ keep, p ∈ news') (hJ : J m' news') : TurnEnd h₀ L I io keep J s₁ Q .cont { s₁ with heap := h', toks := tk } := ⟨h', tk, m', news', rfl, F, N, hn, hk, hJ⟩

theorem codeAny_for_led {R : Result → Shared → Prop} {x : Str} {px : Pos} {body : List Stmt} {I : Addr} {fp : List Addr} {n : Nat} {Pi : Nat → Value → Prop} {St : Nat → Heap → Prop} {m : Str → Option Value}
    {news keep : List (Addr × Obj)} {io₀ : Obj} (W : Walks P w A I fp [I] n Pi St) (hx : env.kindOf x = some .local)
    (hp : (env.scope.kind == .class || (env.scope.kind == .module && env.locals != env.globals)) = false)
    (hIo : ∀ i h, St i h → ∃ io, h.get? I = some io) (hLf : env.locals ∉ fp) (hkeep : ∀ b ∈ fp, b = I ∨ ∃ o, (b, o) ∈ keep) (hk0 : ∀ p ∈ keep, p ∈ news) (hst : St 0 s.heap) (F : Fr h₀ env.locals s.heap m) (N : News h₀ env.locals s.heap ((I, io₀) :: news)) (hnd : (((I, io₀) :: news).map (·.1)).Nodup)
    (J : Nat → (Str → Option Value) → List (Addr × Obj) → Prop) (h0 : J 0 m news)
    (turn : ∀ i v m₁ news₁ h tk io, i < n → Pi i v → J i m₁ news₁ → (∀ p ∈ keep, p ∈ news₁) → Fr h₀ env.locals h (fun y => if y = x then some v else m₁ y) → News h₀ env.locals h ((I, io) :: news₁) → (((I, io) :: news₁).map (·.1)).Nodup →
      wpAny (model P w) A (execs body env) (TurnEnd h₀ env.locals I io keep (J (i + 1)) { s with heap := h, toks := tk } fun f s' => R (.ok f) s') (notedBy (model P w) A env fun e s' => R (.error e) s') { s with heap := h, toks := tk })
    (hR : ∀ h' tk m' news', Fr h₀ env.locals h' m' → News h₀ env.locals h' news' → (news'.map (·.1)).Nodup → (∀ p ∈ keep, p ∈ news') → J n m' news' → R (.ok .next) { s with heap := h', toks := tk }) :
    codeAny (model P w) A (.forLoop (.Name x px) (.ref I) body [] env) R s := by
  have hIf : I ∈ fp := W.sub _ (.head _)
  refine codeAny_forLoop
    (fun k s' => ∃ h' tk m' news' io i, s' = { s with heap := h', toks := tk } ∧ St i h' ∧ Fr h₀ env.locals h' m' ∧ News h₀ env.locals h' ((I, io) :: news') ∧ (((I, io) :: news').map (·.1)).Nodup ∧ (∀ p ∈ keep, p ∈ news') ∧ J i m' news' ∧ i ≤ n ∧ k = n + 1 - i) ?_ (n + 1)
    ⟨s.heap, s.toks, m, news, io₀, 0, rfl, hst, F, N, hnd, hk0, h0, Nat.zero_le _, rfl⟩
  intro k s' hZ1
  refine sealG fun GR1 hGR1 => ?_
  obtain ⟨h', tk, m', news', io, i, rfl, hst', F', N', hnd', hk', hJ, hi, rfl⟩ := hZ1
  refine hGR1 ?_
  have hLI : env.locals ≠ I := fun e => hLf (e ▸ hIf)
  have hI0 : h₀.get? I = none := (N' _ (.head _)).2.2
  have next : ∀ h₁ : Heap, (∀ b o, b ∉ [I] → h'.get? b = some o → h₁.get? b = some o) → Fr h₀ env.locals h₁ m' ∧ News h₀ env.locals h₁ news' := fun h₁ hk₁ =>
    ⟨⟨F'.ns.at' fun o e => hk₁ _ o (by simp [hLI]) e, fun b o e => hk₁ b o (fun hb => by rw [List.mem_singleton.mp hb, hI0] at e; cases e) (F'.keep b o e), F'.above⟩,
      fun p hp => ⟨hk₁ _ _ (fun hb => by
        have := List.mem_singleton.mp hb
        rw [List.map_cons, List.nodup_cons] at hnd'
        exact hnd'.1 (List.mem_map.mpr ⟨p, hp, this⟩)) (N' p (.tail _ hp)).1, (N' p (.tail _ hp)).2⟩⟩
  by_cases hlt : i < n
  · refine W.item i _ _ _ hlt hst' fun v h₁ tk₁ hP hst₁ hk₁ => ?_
    obtain ⟨F₁, N₁⟩ := next h₁ hk₁
    refine wpAny_assign_Name (wpAny_storeName_local hx F₁.ns (fun h₂ hn₂ hs₂ => ?_) hp)
    have F₂ := F₁.set hn₂ hs₂
    have N₂ := N₁.set hs₂
    have hst₂ : St (i + 1) h₂ := W.frame _ _ _ hst₁ fun b hb o e => (hs₂.2 b fun q => hLf (q ▸ hb)).trans e
    obtain ⟨io₁, hio₁⟩ := hIo _ _ hst₂
    have N₃ : News h₀ env.locals h₂ ((I, io₁) :: news') := fun p hp => by
      rcases List.mem_cons.mp hp with rfl | hp
      · exact ⟨hio₁, hLI.symm, hI0⟩
      · exact N₂ p hp
    have hnd₃ : (((I, io₁) :: news').map (·.1)).Nodup := hnd'
    refine wpAny_mono (turn i v m' news' h₂ _ io₁ hlt hP hJ hk' F₂ N₃ hnd₃) (fun f s₃ h₃ => ?_) fun _ _ e => e
    have fin : (∃ h' tk' m'' news'', s₃ = { s with heap := h', toks := tk' } ∧ Fr h₀ env.locals h' m'' ∧ News h₀ env.locals h' ((I, io₁) :: news'') ∧ (((I, io₁) :: news'').map (·.1)).Nodup ∧ (∀ p ∈ keep, p ∈ news'') ∧ J (i + 1) m'' news'') →
        ∃ m₀, m₀ < n + 1 - i ∧ ∃ h' tk m' news' io i, s₃ = { s with heap := h', toks := tk } ∧ St i h' ∧ Fr h₀ env.locals h' m' ∧ News h₀ env.locals h' ((I, io) :: news') ∧ (((I, io) :: news').map (·.1)).Nodup ∧ (∀ p ∈ keep, p ∈ news') ∧ J i m' news' ∧ i ≤ n ∧ m₀ = n + 1 - i := by
      intro hZ2
      refine sealG fun GR2 hGR2 => ?_
      obtain ⟨h₃', tk₃, m₂, news₂, rfl, F₃, N₃', hn₃, hk₃, hJ₃⟩ := hZ2
      refine hGR2 ?_
      refine ⟨n + 1 - (i + 1), by omega, h₃', tk₃, m₂, news₂, io₁, i + 1, rfl, ?_, F₃, N₃', hn₃, hk₃, hJ₃, hlt, rfl⟩
      refine W.frame _ _ _ hst₂ fun b hb o e => ?_
      rcases hkeep b hb with rfl | ⟨o', ho'⟩
      · rw [hio₁] at e
        cases e
        exact (N₃' _ (.head _)).1
      · have e1 := (N₂ _ (hk' _ ho')).1
        rw [e] at e1
        cases e1
        exact (N₃' _ (.tail _ (hk₃ _ ho'))).1
    cases f with
    | ret v => exact h₃
    | brk => exact h₃
    | cont => exact fin h₃
    | next => exact fin h₃
  · have hin : i = n := by omega
    subst hin
    refine W.done _ _ _ hst' fun h₁ tk₁ hk₁ => wpAny_execs_nil ?_
    obtain ⟨F₁, N₁⟩ := next h₁ hk₁
    rw [List.map_cons, List.nodup_cons] at hnd'
    exact hR h₁ tk₁ m' news' F₁ N₁ hnd'.2 hk' hJ

noncomputable def ForAt (P : Program) (w : World) (A : Around) (h₀ : Heap) (env : Env) (x : Str) (body : List Stmt) (Q : Flow → Shared → Prop) (E : Value → Shared → Prop) (it : Value) (s : Shared) : Prop :=
  ∃ (I : Addr) (fp : List Addr) (n : Nat) (Pi : Nat → Value → Prop) (St : Nat → Heap → Prop) (m : Str → Option Value) (news keep : List (Addr × Obj)) (io₀ : Obj) (J : Nat → (Str → Option Value) → List (Addr × Obj) → Prop),
    it = .ref I ∧ Walks P w A I fp [I] n Pi St ∧ (∀ i h, St i h → ∃ io, h.get? I = some io) ∧ env.locals ∉ fp ∧ (∀ b ∈ fp, b = I ∨ ∃ o, (b, o) ∈ keep) ∧ (∀ p ∈ keep, p ∈ news) ∧ St 0 s.heap ∧ Fr h₀ env.locals s.heap m ∧ News h₀ env.locals s.heap ((I, io₀) :: news) ∧ (((I, io₀) :: news).map (·.1)).Nodup ∧ J 0 m news ∧
    (∀ i v m₁ news₁ h tk io, i < n → Pi i v → J i m₁ news₁ → (∀ p ∈ keep, p ∈ news₁) → Fr h₀ env.locals h (fun y => if y = x then some v else m₁ y) → News h₀ env.locals h ((I, io) :: news₁) → (((I, io) :: news₁).map (·.1)).Nodup →
      wpAny (model P w) A (execs body env) (TurnEnd h₀ env.locals I io keep (J (i + 1)) { s with heap := h, toks := tk } Q) E { s with heap := h, toks := tk }) ∧
    (∀ h' tk m' news', Fr h₀ env.locals h' m' → News h₀ env.locals h' news' → (news'.map (·.1)).Nodup → (∀ p ∈ keep, p ∈ news') → J n m' news' → Q .next { s with heap := h', toks := tk })

theorem for_led {Q : Flow → Shared → Prop} {x : Str} {px pos : Pos} {iter : Expr} {body : List Stmt} (h₀ : Heap) (hx : env.kindOf x = some .local)
    (hp : (env.scope.kind == .class || (env.scope.kind == .module && env.locals != env.globals)) = false)
    (h : wpAny (model P w) A (eval iter env) (fun xv s₁ => wpAny (model P w) A (pyIter xv) (fun it s₂ => ForAt P w A h₀ env x body Q E it s₂) E s₁) E s)
    (hs : ∀ x, foldedSetIterable iter env x = pure x := by intro _; rfl)
    (hE : PassesOwn (model P w) A env E := by passes_own) :
    wpAny (model P w) A (exec (.For (.Name x px) iter body [] pos) env) Q E s := by
  refine wpAny_For (wpAny_mono h (fun xv s₁ h₁ => wpAny_mono h₁ (fun it s₂ h₂ => ?_) fun _ _ e => e) fun _ _ e => e) hs
  refine sealG fun GG1 hGG1 => ?_
  obtain ⟨I, fp, n, Pi, St, m, news, keep, io₀, J, rfl, W, hIo, hLf, hkeep, hk0, hst, F, N, hnd, h0, turn, hQ⟩ := h₂
  refine hGG1 ?_
  exact codeAny_for_led (R := fun r s' => match r with | .ok f => Q f s' | .error e => cameBackBy (model P w) A env E e s') W hx hp hIo hLf hkeep hk0 hst F N hnd J h0 (fun i v m₁ news₁ h tk io a1 a2 a3 a4 a5 a6 a7 => wpAny_passesOwn hE (turn i v m₁ news₁ h tk io a1 a2 a3 a4 a5 a6 a7)) hQ

section
variable {x : Str} {body : List Stmt} {Q : Flow → Shared → Prop} {m : Str → Option Value} {news : List (Addr × Obj)} {ax : Addr}
theorem forAt_tuple {items : Array Value} {ep : Nat} (hh : A.handled = none) (F : Fr h₀ env.locals s.heap m) (N : News h₀ env.locals s.heap news) (hnd : (news.map (·.1)).Nodup) (ha : (ax, ({ cls := .type "tuple", data := .seq items ep } : Obj)) ∈ news)
    (J : Nat → (Str → Option Value) → List (Addr × Obj) → Prop) (h0 : J 0 m news)
    (turn : ∀ I i v m₁ news₁ h tk io, items[i]? = some v → J i m₁ news₁ → (ax, ({ cls := .type "tuple", data := .seq items ep } : Obj)) ∈ news₁ → Fr h₀ env.locals h (fun y => if y = x then some v else m₁ y) → News h₀ env.locals h ((I, io) :: news₁) → (((I, io) :: news₁).map (·.1)).Nodup →
      wpAny (model P w) A (execs body env) (TurnEnd h₀ env.locals I io [(ax, ({ cls := .type "tuple", data := .seq items ep } : Obj))] (J (i + 1)) { s with heap := h, toks := tk } Q) E { s with heap := h, toks := tk })
    (done : ∀ h' tk m' news', Fr h₀ env.locals h' m' → News h₀ env.locals h' news' → (news'.map (·.1)).Nodup → (ax, ({ cls := .type "tuple", data := .seq items ep } : Obj)) ∈ news' → J items.size m' news' → Q .next { s with heap := h', toks := tk }) :
    wpAny (model P w) A (pyIter (.ref ax)) (fun it s₂ => ForAt P w A h₀ env x body Q E it s₂) E s := by
  have hT : s.heap.IsTuple ax items := ⟨_, (N _ ha).1, rfl, _, rfl⟩
  refine wpAny_pyIter_tuple hT ?_
  have hlt := Heap.lt_size (N _ ha).1
  have N' := N.push F { cls := .type "tuple_iterator", data := .fields #[.ref ax, .int 0 0] }
  refine ⟨_, _, _, _, _, m, news, [(ax, { cls := .type "tuple", data := .seq items ep })], _, J, rfl, Walks.tuple hh _ ax (Nat.ne_of_lt hlt) items, fun i h st => let ⟨o, ho, _⟩ := st.1; ⟨o, ho⟩, ?_, ?_, ?_, ⟨⟨_, Heap.get?_push_size _ rfl, rfl, rfl⟩, hT.at fun o e => Heap.get?_push_of_some _ e⟩, F.push _, N', ?_, h0, ?_, ?_⟩
  · intro hm
    rcases List.mem_cons.mp hm with e | hm
    · exact absurd F.ns.lt (e ▸ Nat.lt_irrefl _)
    · exact (N _ ha).2.1 (List.mem_singleton.mp hm).symm
  · intro b hb
    rcases List.mem_cons.mp hb with e | hb
    · exact .inl e
    · exact .inr ⟨_, by rw [List.mem_singleton.mp hb]; exact .head _⟩
  · intro p hp; rw [List.mem_singleton.mp hp]; exact ha
  · exact nodup_cons_of hnd (bnd_news N)
  · intro i v m₁ news₁ h tk io _ hP hJ hk F₁ N₁ hn₁
    exact turn _ i v m₁ news₁ h tk io hP hJ (hk _ (.head _)) F₁ N₁ hn₁
  · intro h' tk m' news' F' N' hn' hk hJ
    exact done h' tk m' news' F' N' hn' (hk _ (.head _)) hJ
theorem forAt_list {items : Array Value} {ep : Nat} (hh : A.handled = none) (F : Fr h₀ env.locals s.heap m) (N : News h₀ env.locals s.heap news) (hnd : (news.map (·.1)).Nodup) (ha : (ax, W.listOf items ep) ∈ news)
    (J : Nat → (Str → Option Value) → List (Addr × Obj) → Prop) (h0 : J 0 m news)
    (turn : ∀ I i v m₁ news₁ h tk io, items[i]? = some v → J i m₁ news₁ → (ax, W.listOf items ep) ∈ news₁ → Fr h₀ env.locals h (fun y => if y = x then some v else m₁ y) → News h₀ env.locals h ((I, io) :: news₁) → (((I, io) :: news₁).map (·.1)).Nodup →
      wpAny (model P w) A (execs body env) (TurnEnd h₀ env.locals I io [(ax, W.listOf items ep)] (J (i + 1)) { s with heap := h, toks := tk } Q) E { s with heap := h, toks := tk })
    (done : ∀ h' tk m' news', Fr h₀ env.locals h' m' → News h₀ env.locals h' news' → (news'.map (·.1)).Nodup → (ax, W.listOf items ep) ∈ news' → J items.size m' news' → Q .next { s with heap := h', toks := tk }) :
    wpAny (model P w) A (pyIter (.ref ax)) (fun it s₂ => ForAt P w A h₀ env x body Q E it s₂) E s := by
  have hT : s.heap.IsList ax items := ⟨_, (N _ ha).1, rfl, _, rfl⟩
  refine wpAny_pyIter_list hT ?_
  have hlt := Heap.lt_size (N _ ha).1
  have N' := N.push F { cls := .type "list_iterator", data := .fields #[.ref ax, .int 0 0] }
  refine ⟨_, _, _, _, _, m, news, [(ax, W.listOf items ep)], _, J, rfl, Walks.list hh _ ax (Nat.ne_of_lt hlt) items, fun i h st => let ⟨o, ho, _⟩ := st.1; ⟨o, ho⟩, ?_, ?_, ?_, ⟨⟨_, Heap.get?_push_size _ rfl, rfl, rfl⟩, hT.at fun o e => Heap.get?_push_of_some _ e⟩, F.push _, N', ?_, h0, ?_, ?_⟩
  · intro hm
    rcases List.mem_cons.mp hm with e | hm
    · exact absurd F.ns.lt (e ▸ Nat.lt_irrefl _)
    · exact (N _ ha).2.1 (List.mem_singleton.mp hm).symm
  · intro b hb
    rcases List.mem_cons.mp hb with e | hb
    · exact .inl e
    · exact .inr ⟨_, by rw [List.mem_singleton.mp hb]; exact .head _⟩
  · intro p hp; rw [List.mem_singleton.mp hp]; exact ha
  · exact nodup_cons_of hnd (bnd_news N)
  · intro i v m₁ news₁ h tk io _ hP hJ hk F₁ N₁ hn₁
    exact turn _ i v m₁ news₁ h tk io hP hJ (hk _ (.head _)) F₁ N₁ hn₁
  · intro h' tk m' news' F' N' hn' hk hJ
    exact done h' tk m' news' F' N' hn' (hk _ (.head _)) hJ
theorem forAt_dict {od : Obj} {kvs : List (Str × Value)} (hh : A.handled = none) (F : Fr h₀ env.locals s.heap m) (N : News h₀ env.locals s.heap news) (hnd : (news.map (·.1)).Nodup) (ha : (ax, od) ∈ news) (hod : od.IsDictOf (strKind P w) kvs) (lo : (ax == sysModules) = false)
    (J : Nat → (Str → Option Value) → List (Addr × Obj) → Prop) (h0 : J 0 m news)
    (turn : ∀ I i k t m₁ news₁ h tk io, (kvs.map (·.1))[i]? = some k → J i m₁ news₁ → (ax, od) ∈ news₁ → Fr h₀ env.locals h (fun y => if y = x then some (.str k t) else m₁ y) → News h₀ env.locals h ((I, io) :: news₁) → (((I, io) :: news₁).map (·.1)).Nodup →
      wpAny (model P w) A (execs body env) (TurnEnd h₀ env.locals I io [(ax, od)] (J (i + 1)) { s with heap := h, toks := tk } Q) E { s with heap := h, toks := tk })
    (done : ∀ h' tk m' news', Fr h₀ env.locals h' m' → News h₀ env.locals h' news' → (news'.map (·.1)).Nodup → (ax, od) ∈ news' → J kvs.length m' news' → Q .next { s with heap := h', toks := tk }) :
    wpAny (model P w) A (pyIter (.ref ax)) (fun it s₂ => ForAt P w A h₀ env x body Q E it s₂) E s := by
  refine sealG fun GG2 hGG2 => ?_
  obtain ⟨es, ep, hx, hd, hk, hp, hn⟩ := id hod
  refine hGG2 ?_
  have hT : s.heap.DictAt (strKind P w) ax kvs ep := ⟨od, es, (N _ ha).1, hx, hd, hk, hp, hn⟩
  refine wpAny_pyIter_dict lo hT ?_
  have hlt := Heap.lt_size (N _ ha).1
  have N' := N.push F { cls := .type "dict_keyiterator", data := .fields #[.ref ax, .int 0 0, .int kvs.length 0, .int ep 0] }
  refine ⟨_, _, _, _, _, m, news, [(ax, od)], _, J, rfl, Walks.dictKeys (knd := strKind P w) hh _ ax (Nat.ne_of_lt hlt) kvs ep, fun i h st => let ⟨o, ho, _⟩ := st.1; ⟨o, ho⟩, ?_, ?_, ?_, ⟨⟨_, Heap.get?_push_size _ rfl, rfl, rfl⟩, hT.at' fun o e => Heap.get?_push_of_some _ e⟩, F.push _, N', ?_, h0, ?_, ?_⟩
  · intro hm
    rcases List.mem_cons.mp hm with e | hm
    · exact absurd F.ns.lt (e ▸ Nat.lt_irrefl _)
    · exact (N _ ha).2.1 (List.mem_singleton.mp hm).symm
  · intro b hb
    rcases List.mem_cons.mp hb with e | hb
    · exact .inl e
    · exact .inr ⟨_, by rw [List.mem_singleton.mp hb]; exact .head _⟩
  · intro p hp; rw [List.mem_singleton.mp hp]; exact ha
  · exact nodup_cons_of hnd (bnd_news N)
  · intro i v m₁ news₁ h tk io _ hZ3 hJ hk F₁ N₁ hn₁
    refine sealG fun GR3 hGR3 => ?_
    obtain ⟨k, z, hkz, hv⟩ := hZ3
    refine hGR3 ?_
    obtain ⟨t, rfl⟩ : ∃ t, v = .str k t := by
      cases v with
      | str y t => exact ⟨t, by have : y = k := by simpa [PySem.strKind, Value.isStrOf] using hv
                                rw [this]⟩
      | _ => simp [PySem.strKind, Value.isStrOf] at hv
    exact turn _ i k t m₁ news₁ h tk io (by rw [List.getElem?_map, hkz]; rfl) hJ (hk _ (.head _)) F₁ N₁ hn₁
  · intro h' tk m' news' F' N' hn' hk hJ
    exact done h' tk m' news' F' N' hn' (hk _ (.head _)) hJ
end
end

end
section
open PySem PySem.W PyProof.Rows PySem.Spec PySem.Calls
set_option maxRecDepth 100000
theorem meets_bool_list (l : Addr) (items : Array Value) (hfit : (items.size : Int) < 2 ^ 63) :
    Meets (Builtin.«bool.__new__» ⟨[.type "bool", .ref l], []⟩) (fun _ R s => s.heap.IsList l items ∧ R (.ok (.ret (.bool (!items.isEmpty)))) { s with toks := s.toks + 1 + 1 }) :=
  Meets.of_wp fun prog w A R s hs => by
    obtain ⟨hp, g, d, tk, os⟩ := s
    obtain ⟨hl, hs⟩ := hs
    have f1 := PySem.F.conv_sub_bool
    repeat (any_goals (first | assumption | (with_reducible refine wpAny_truthy_list hl hfit ?_) | wp_step))
    all_goals first | exact ⟨_, rfl, hs⟩ | exact hs | skip
theorem call_bool_list {P : Program} {w : World} {A : Around} {E : Value → Shared → Prop} {s : Shared} {l : Addr} {items : Array Value} {Q : Value → Shared → Prop} (hl : s.heap.IsList l items) (hfit : (items.size : Int) < 2 ^ 63) (h : Q (.bool (!items.isEmpty)) { s with toks := s.toks + 1 + 1 }) :
    wpAny (model P w) A (call (.type "bool") [.ref l]) Q E s :=
  call_bool_1 (meets_bool_list l items hfit) ⟨hl, show wants (fun obj s₁ => s₁.TypeIs obj "bool" ∧ Q obj s₁) E _ _ from ⟨rfl, h⟩⟩
section
variable {P : Program} {w : World} {A : Around} {E : Value → Shared → Prop} {s : Shared} {h₀ : Heap} {L D : Addr} {m : Str → Option Value} {news : List (Addr × Obj)}
theorem clear_led {its : Array Value} {n : Nat} {Q : Value → Shared → Prop} (F : Fr h₀ L s.heap m) (N : News h₀ L s.heap news) (hnd : (news.map (·.1)).Nodup) (hm : (D, W.listOf its n) ∈ news) (hz : its.size ≤ sizeLine)
    (h : ∀ h' n', Fr h₀ L h' m → News h₀ L h' (putA D (W.listOf #[] n') news) → Q .none { s with heap := h' }) : wpAny (model P w) A (call (.builtin "list.clear") [.ref D]) Q E s := by
  by_cases hne : its.toList.length = 0
  · have U := upd_putA (o' := W.listOf #[] n) hnd hm
    obtain ⟨pre, post, e1, e2, a, c⟩ := U.split
    rw [e1] at N
    have z := N (D, W.listOf its n) (List.mem_append.mpr (.inr (.head _)))
    refine call_meets PySem.F.slot_list_clear ⟨_, z.1, rfl⟩ PySem.F.entry_list_clear (PySem.F.args_list_clear_1 _) (PySem.AutoSeq1.list_clear_list_0 D its n hz) ⟨z.1, h _ n (F.change (Heap.SameBut.update ..) z.2.1 z.2.2) ?_⟩
    rw [e2]
    exact kl_turn0 (fun _ => #[]) N a c rfl (by simpa using hne.symm)
  · exact kl_clear F N (upd_putA hnd hm) hne (by simpa using hz) fun h' F' N' => h h' _ F' N'
end
section
variable {P : Program} {w : World} {A A₀ : Around} {s : Shared} {K : Frag} {L : Addr} {h₀ base : Heap} {m mg mb : Str → Option Value} {news : List (Addr × Obj)} {p : Program} {loose : List Str} {mean : ExcName → Option Value}
theorem enter_rest {env : Env} {outer : List Env} {R : Result → Shared → Prop} {name qual : Str} {params : Arguments} {body : List Stmt} {scope : Scope} {dV kV doc pm cdv ct oc : Value} {an od : Option Addr} {osl : Array (Option Value)} {f : Addr} {args : Args} {vs : List Value} {binds : Value → List (Str × Value)}
    (B : Below A₀ base outer h₀) (F : Fr h₀ L s.heap m) (X₀ : K.In h₀) (N : News h₀ L s.heap news) (T : Top p loose mean mg mb h₀) (hA : A.frames = some (env :: outer)) (hf : env.frame = some L) (hke : env.scope.kind = .function)
    (ho : K.lookup f = some ⟨oc, od, .func (fnOf name qual params body scope dV kV doc pm an cdv ct), osl⟩) (hcd : codeIn K cdv qual = true) (hroom : A.depth < recursionLimit) (hsz : vs.length ≤ sizeLine)
    (hb : bindArgs (fnOf name qual params body scope dV kV doc pm an cdv ct) args = (newTuple vs >>= fun t => pure (binds t)))
    (hloc : ∀ t, ∀ y ∈ binds t, scope.names.lookup y.1 = some .local)
    (h : ∀ D g L' h₁, (∀ p ∈ news, p.1 < D) → Fr h₀ L g m → Fr g L' h₁ (fun y => (binds (.ref D)).reverse.lookup y) → News g L' h₁ ((D, ({ cls := .type "tuple", data := .seq vs.toArray } : Obj)) :: news) → Below A base (env :: outer) g → K.In g → Top p loose mean mg mb g →
      wpAny (model P w) (A.deeper (envOf qual scope L' f cdv)) (execs body (envOf qual scope L' f cdv))
        (fun fl s' => LeaveK h₀ L m g R (match fl with | .ret v => v | _ => .none) s')
        (fun e s' => wpAny (model P w) (A.deeper (envOf qual scope L' f cdv)) (leaving (envOf qual scope L' f cdv) e) (fun _ s'' => R (.error e) s'') (fun e' s'' => R (.error e') s'') s')
        { s with heap := h₁, toks := s.toks + (binds (.ref D)).length })
    (hco : scope.isCoroutine = false) (hgen : scope.isGenerator = false) (hk : scope.kind = .function)
    (hcell : ∀ x ∈ scope.names, x.2 ≠ .cell) : codeAny (model P w) A (.call (.ref f) args) R s := by
  refine codeAny_call_function (fd := fnOf name qual params body scope dV kV doc pm an cdv ct) (body := body) hroom ((X₀.keeps F.keep) _ _ ho) rfl hco hgen rfl (codeRec_of (X₀.keeps F.keep) hcd) ?_
  rw [hb]
  refine wpAny_bind (newTuple_N F N (fun h' F' N' => wpAny_pure ?_) hsz)
  exact kp_frame (cl := []) (s := { s with heap := h' }) B F' N' T.nolimit hA hf hke (hloc _) (fun g L' h₁ FG FL NG BG st => h _ g L' h₁ (fun p hp => Heap.lt_size (N p hp).1) FG FL NG BG (X₀.keeps st) (T.keeps st)) hcell hk
end

end
section
open PySem PySem.W PyProof.Rows PySem.Spec PySem.Calls
set_option maxRecDepth 100000
section
variable {P : Program} {w : World} {A : Around} {E : Value → Shared → Prop} {Q : Flow → Shared → Prop} {s : Shared} {env : Env} {h₀ : Heap} {L : Addr}
theorem while_led {test : Expr} {body orelse : List Stmt} {pos : Pos} {m : Str → Option Value} {news : List (Addr × Obj)} (J : Nat → (Str → Option Value) → List (Addr × Obj) → Prop) {n₀ : Nat}
    (F : Fr h₀ L s.heap m) (N : News h₀ L s.heap news) (hJ : J n₀ m news)
    (turn : ∀ n m₁ news₁ h₁ tk₁, Fr h₀ L h₁ m₁ → News h₀ L h₁ news₁ → J n m₁ news₁ →
      wpAny (model P w) A (isTrue test env (eval test env)) (fun b s₂ =>
        if b = true then wpAny (model P w) A (execs body env) (WhileStep2 h₀ L s J Q n) E s₂ else wpAny (model P w) A (execs orelse env) Q E s₂) E { s with heap := h₁, toks := tk₁ })
    (hE : PassesOwn (model P w) A env E := by passes_own) :
    wpAny (model P w) A (exec (.While test body orelse pos) env) Q E s := by
  refine wpAny_While (codeAny_whileLoop (fun n s' => ∃ h₁ tk₁ m₁ news₁, s' = { s with heap := h₁, toks := tk₁ } ∧ Fr h₀ L h₁ m₁ ∧ News h₀ L h₁ news₁ ∧ J n m₁ news₁) ?_ n₀ ⟨s.heap, s.toks, m, news, rfl, F, N, hJ⟩)
  rintro n s' ⟨h₁, tk₁, m₁, news₁, rfl, F₁, N₁, J₁⟩
  refine wpAny_mono (turn n m₁ news₁ h₁ tk₁ F₁ N₁ J₁) (fun b s₂ h₂ => ?_) hE
  cases b with
  | false =>
    simp only [Bool.false_eq_true, if_false] at h₂ ⊢
    exact wpAny_mono h₂ (fun _ _ x => x) hE
  | true =>
    simp only [if_true] at h₂ ⊢
    refine wpAny_mono h₂ (fun f s₃ h₃ => ?_) hE
    cases f with
    | next =>
      obtain ⟨h', tk, m₂, news₂, n', rfl, F₂, N₂, hn, J₂⟩ := h₃
      exact ⟨n', hn, h', tk, m₂, news₂, rfl, F₂, N₂, J₂⟩
    | cont =>
      obtain ⟨h', tk, m₂, news₂, n', rfl, F₂, N₂, hn, J₂⟩ := h₃
      exact ⟨n', hn, h', tk, m₂, news₂, rfl, F₂, N₂, J₂⟩
    | brk => exact h₃
    | ret v => exact h₃
theorem WhileStep2.go {J : Nat → (Str → Option Value) → List (Addr × Obj) → Prop} {n n' : Nat} {h' : Heap} {tk : Nat} {m₂ : Str → Option Value} {news₂ : List (Addr × Obj)} (F : Fr h₀ L h' m₂) (N : News h₀ L h' news₂) (hn : n' < n) (hJ : J n' m₂ news₂) : WhileStep2 h₀ L s J Q n .next { s with heap := h', toks := tk } :=
  ⟨h', tk, m₂, news₂, n', rfl, F, N, hn, hJ⟩
end

end
section
open PySem PySem.W PyProof.Rows PySem.Spec PySem.Calls PyProof.Rows.TI
set_option maxRecDepth 100000
section
variable {P : Program} {w : World} {A : Around} {s : Shared} {h₀ : Heap} {L a : Addr} {m : Str → Option Value} {cn : Str} {cs : Scope} {ccd : Value} {ccl : List (Str × Addr)} {news frs : List (Addr × Obj)} {l : List Env} {K : Frag} {p : Program} {loose : List Str} {mean : ExcName → Option Value} {mg mb : Str → Option Value}
theorem code_T {R : Result → Shared → Prop} {name qual : Str} {params : Arguments} {body : List Stmt} {scope : Scope} {dV kV doc pm cdv ct oc : Value} {an od : Option Addr} {osl : Array (Option Value)} {f : Addr} {args : Args} {binds : List (Str × Value)}
    (F : Fr h₀ L s.heap m) (X₀ : K.In h₀) (N : News h₀ L s.heap (news ++ frs)) (T : Top p loose mean mg mb h₀) (Fs : Frs l frs)
    (ho : K.lookup f = some ⟨oc, od, .func (fnOf name qual params body scope dV kV doc pm an cdv ct), osl⟩) (hcd : codeIn K cdv qual = true) (hroom : A.depth < recursionLimit)
    (hbind : BindsTo s (fnOf name qual params body scope dV kV doc pm an cdv ct) args binds) (hloc : ∀ y ∈ binds, scope.names.lookup y.1 = some .local)
    (h : ∀ L' oL h₁, TI.Caller h₀ L m oL → Frs (envX cn cs L a ccd ccl :: l) ((L, oL) :: frs) → (∀ p ∈ news ++ frs, p.1 ≠ L) → Fr h₀ L' h₁ (fun y => binds.reverse.lookup y) → News h₀ L' h₁ (news ++ (L, oL) :: frs) → (∀ p ∈ news ++ (L, oL) :: frs, p.1 < L') →
      wpAny (model P w) (A.deeper (envOf qual scope L' f cdv)) (execs body (envOf qual scope L' f cdv))
        (fun fl s' => R (.ok (.ret (match fl with | .ret v => v | _ => .none))) s')
        (fun e s' => wpAny (model P w) (A.deeper (envOf qual scope L' f cdv)) (leaving (envOf qual scope L' f cdv) e) (fun _ s'' => R (.error e) s'') (fun e' s'' => R (.error e') s'') s')
        { s with heap := h₁, toks := s.toks + binds.length })
    (hck : cs.kind = .function) (hco : scope.isCoroutine = false := by rfl) (hgen : scope.isGenerator = false := by rfl) (hk : scope.kind = .function := by rfl)
    (hcell : ∀ x ∈ scope.names, x.2 ≠ .cell := by decide) : codeAny (model P w) A (.call (.ref f) args) R s := by
  have X := X₀.keeps F.keep
  obtain ⟨oL, es, ep, hL, hLd, hLk, hLf⟩ := F.ns
  have hLt := Heap.lt_size hL
  have hkind : (envX cn cs L a ccd ccl).scope.kind ≠ .module := by
    show cs.kind ≠ .module
    rw [hck]; decide
  refine codeAny_call_def (fd := fnOf name qual params body scope dV kV doc pm an cdv ct) (body := body) (binds := binds) hroom (X _ _ ho) rfl (T.nolimit.keeps F.keep) (codeRec_of X hcd) rfl hbind hcell hloc (fun h₁ hns hk₁ => ?_) hco hgen hk
  have up : ∀ b o, s.heap.get? b = some o → h₁.get? b = some o := fun b o e => hk₁ b o e
  have all : ∀ q ∈ news ++ (L, oL) :: frs, s.heap.get? q.1 = some q.2 ∧ h₀.get? q.1 = none := fun q hq => by
    rcases List.mem_append.mp hq with hq | hq
    · obtain ⟨h1, _, h3⟩ := N q (List.mem_append_left _ hq)
      exact ⟨h1, h3⟩
    · rcases List.mem_cons.mp hq with rfl | hq
      · exact ⟨hL, Heap.get?_none_of_le F.above⟩
      · obtain ⟨h1, _, h3⟩ := N q (List.mem_append_right _ hq)
        exact ⟨h1, h3⟩
  refine h s.heap.objs.size oL h₁ ⟨fun h' sl e => ⟨_, es, ep, e, hLd, hLk, hLf⟩, ⟨es, ep, hLd⟩, F.above⟩ ⟨hkind, rfl, ⟨es, ep, hLd⟩, Fs⟩ (fun p hp => (N p hp).2.1)
    ⟨hns, fun b o e => up b o (F.keep b o e), Nat.le_trans F.above (Nat.le_of_lt hLt)⟩ (fun q hq => ?_) (fun q hq => Heap.lt_size (all q hq).1)
  obtain ⟨h1, h3⟩ := all q hq
  exact ⟨up _ _ h1, Nat.ne_of_lt (Heap.lt_size h1), h3⟩
theorem back_T {oL : Obj} {L' : Addr} {m' : Str → Option Value} {h' : Heap} {news' frs' : List (Addr × Obj)} {env : Env} (C : TI.Caller h₀ L m oL) (F' : Fr h₀ L' h' m') (N' : News h₀ L' h' (news' ++ frs')) (SU : SameUp ((L, oL) :: frs) frs') (hnd : ((news' ++ frs').map (·.1)).Nodup) (Fs : Frs (env :: l) frs') :
    ∃ frs'', SameUp frs frs'' ∧ Frs l frs'' ∧ Fr h₀ L h' m ∧ News h₀ L h' (news' ++ frs'') ∧ ((news' ++ frs'').map (·.1)).Nodup := by
  match frs', SU, Fs with
  | q :: qs, ⟨e, ⟨sl, eo⟩, SU'⟩, Fs =>
    have hq := (N' q (List.mem_append_right _ (.head _))).1
    rw [e, eo] at hq
    have hsub : ∀ p ∈ news' ++ qs, p ∈ news' ++ q :: qs := fun p hp => by
      rcases List.mem_append.mp hp with hp | hp
      · exact List.mem_append_left _ hp
      · exact List.mem_append_right _ (.tail _ hp)
    have hperm : ((news' ++ q :: qs).map (·.1)).Perm (q.1 :: (news' ++ qs).map (·.1)) := by
      rw [List.map_append, List.map_append, List.map_cons]; exact List.perm_middle
    have hnd' := hperm.nodup hnd
    rw [List.nodup_cons] at hnd'
    refine ⟨qs, SU', Fs.2.2.2, ⟨C.ns h' sl hq, F'.keep, C.above⟩, fun p hp => ?_, hnd'.2⟩
    obtain ⟨h1, _, h3⟩ := N' p (hsub p hp)
    exact ⟨h1, fun ep => hnd'.1 (List.mem_map.mpr ⟨p, hp, by rw [ep, e]⟩), h3⟩
end
section
variable {P : Program} {w : World} {A₀ : Around} {E : Value → Shared → Prop} {s' : Shared} {hb h : Heap} {L a e : Addr} {m : Str → Option Value} {name : Str} {scope : Scope} {cd : Value} {new frs : List (Addr × Obj)} {l : List Env} {X : String} {x : Str}
  {b₀ : Stmt} {suite : List Stmt} {pos np : Pos} {rest : List ExceptHandler} {Q : Flow → Shared → Prop} {p : Program} {loose : List Str} {mean : ExcName → Option Value} {mg mb : Str → Option Value}
theorem catch_T (hfr : A₀.frames = some l) (Fs : Frs l frs) (hx : Heap.NewExc h s'.heap e X) (F : Fr hb L h m) (N : News hb L h (new ++ frs)) (hnd : ((new ++ frs).map (·.1)).Nodup) (T : Top p loose mean mg mb hb)
    (k : ∀ h' frs', SameUp frs frs' → Frs l frs' → Fr hb L h' m → News hb L h' (new ++ frs') → wpAny (model P w) ((A₀.deeper (envOf name scope L a cd)).mark (some (.ref e))) (execs (b₀ :: suite) (envOf name scope L a cd)) Q E { s' with heap := h' })
    (t1 : x ∉ startupNames := by decide +kernel) (t2 : x ∉ loose := by decide +kernel) (t3 : x ∉ (recsOf p).map (·.name) := by decide +kernel) (t4 : x ∉ (litsOf p).map (·.1) := by decide +kernel) (t5 : x ∉ (clssOf p loose).map (·.name) := by decide +kernel)
    (h3 : subB X (.type x.toString) = some true := by decide +kernel) (hv : bootBuiltins x = some (.type x.toString) := by decide +kernel) (h1 : subB x.toString (.type "BaseException") = some true := by decide +kernel)
    (h2 : subB ((Manifest.find? x.toString).elim "type" fun y => y.metatype) (.type "tuple") = some false := by decide +kernel) (hn : x ≠ "__name__" := by decide)
    (hk : scope.kind = .function := by rfl) (hxk : (envOf name scope L a cd).kindOf x = some .globalImplicit := by rfl) (hdb : (x == ("__debug__" : Str)) = false := by decide)
    (hE : PassesOwnAt (model P w) ((A₀.deeper (envOf name scope L a cd)).mark (some (.ref e))) (A₀.deeper (envOf name scope L a cd)) (envOf name scope L a cd) E := by passes_own) :
    wpAny (model P w) (A₀.deeper (envOf name scope L a cd)) (noteFrame (.ref e) (envOf name scope L a cd)) (fun _ s₂ => wpAny (model P w) (A₀.deeper (envOf name scope L a cd)) (setFlight (.ref e) none) (fun _ s₃ =>
      wpAny (model P w) (A₀.deeper (envOf name scope L a cd)) (handleBy (.ref e) (envOf name scope L a cd) (.ExceptHandler (some (.Name x np)) none (b₀ :: suite) pos :: rest)) Q E s₃) E s₂) E s' := by
  have hap : ∀ q ∈ new, q.1 ∉ L :: frs.map (·.1) := fun q hq hm => by
    rcases List.mem_cons.mp hm with e1 | hm
    · exact (N q (List.mem_append_left _ hq)).2.1 e1
    · rw [List.map_append, List.nodup_append] at hnd
      exact hnd.2.2 _ (List.mem_map.mpr ⟨q, hq, rfl⟩) _ hm rfl
  refine TLg.noted_newA hfr Fs hx F N hap (fun h₁ frs₁ SU Fs₁ H => ?_) hk
  refine TT.HeldNA.land H fun h₂ H₂ => ?_
  exact TT.clause_hitTN H₂ T t1 t2 t3 t4 t5 (fun h₃ F₃ N₃ => k h₃ frs₁ SU Fs₁ F₃ N₃) h3 hv h1 h2 hn hk hxk hdb hE
end
noncomputable def dropL (as : List Addr) (l : List (Addr × Obj)) : List (Addr × Obj) := l.filter fun p => !as.contains p.1
theorem mem_dropL {as : List Addr} {l : List (Addr × Obj)} {p : Addr × Obj} : p ∈ dropL as l ↔ p ∈ l ∧ p.1 ∉ as := by simp [dropL]
theorem split_led {frs led : List (Addr × Obj)} (hnd : (led.map (·.1)).Nodup) (hs : ∀ p ∈ frs, p ∈ led) {p : Addr × Obj} : p ∈ dropL (frs.map (·.1)) led ++ frs ↔ p ∈ led := by
  constructor
  · intro h
    rcases List.mem_append.mp h with h | h
    · exact (mem_dropL.mp h).1
    · exact hs p h
  · intro h
    by_cases hm : p.1 ∈ frs.map (·.1)
    · obtain ⟨q, hq, e⟩ := List.mem_map.mp hm
      have : q.2 = p.2 := ledger_inj (a := p.1) hnd (by rw [← e]; exact hs q hq) h
      have e2 : q = p := Prod.ext e this
      exact List.mem_append_right _ (e2 ▸ hq)
    · exact List.mem_append_left _ (mem_dropL.mpr ⟨h, hm⟩)
theorem split_nodup {frs led : List (Addr × Obj)} (hnd : (led.map (·.1)).Nodup) (hnf : (frs.map (·.1)).Nodup) : ((dropL (frs.map (·.1)) led ++ frs).map (·.1)).Nodup := by
  rw [List.map_append, List.nodup_append]
  refine ⟨hnd.sublist ((List.filter_sublist).map _), hnf, fun a ha b hb e => ?_⟩
  obtain ⟨q, hq, rfl⟩ := List.mem_map.mp ha
  exact (mem_dropL.mp hq).2 (e ▸ hb)
theorem sameUp_fst {a b : List (Addr × Obj)} (h : SameUp a b) : b.map (·.1) = a.map (·.1) := by
  induction a generalizing b with
  | nil => cases b with
    | nil => rfl
    | cons => exact h.elim
  | cons p ps ih => cases b with
    | nil => exact h.elim
    | cons q qs =>
      have e : q.1 = p.1 := h.1
      have r := ih (b := qs) h.2.2
      rw [List.map_cons, List.map_cons, e, r]
theorem sameUp_trans {a b c : List (Addr × Obj)} (h : SameUp a b) (h' : SameUp b c) : SameUp a c := by
  induction a generalizing b c with
  | nil => cases b with
    | nil => exact h'
    | cons => exact h.elim
  | cons p ps ih => cases b with
    | nil => exact h.elim
    | cons q qs => cases c with
      | nil => exact h'.elim
      | cons x xs =>
        obtain ⟨sl, hq⟩ := h.2.1
        obtain ⟨sl', hx⟩ := h'.2.1
        exact ⟨h'.1.trans h.1, ⟨sl', by rw [hx, hq]⟩, ih h.2.2 h'.2.2⟩

end
section
open PySem PySem.W PyProof.Rows PySem.Spec PySem.Calls
set_option maxRecDepth 100000
theorem li_ga : typeLookup (.type "list_iterator") "__getattribute__" = pure (some (.builtin "object.__getattribute__")) := by rw [typeLookup_type, builtinLookup_eq_fast]; kernel_rfl
theorem li_next : typeLookup (.type "list_iterator") "__next__" = pure (some (.builtin "list_iterator.__next__")) := by rw [typeLookup_type, builtinLookup_eq_fast]; kernel_rfl
theorem li_getattr_none : typeLookup (.type "list_iterator") "__getattr__" = pure none := by rw [typeLookup_type, builtinLookup_eq_fast]; kernel_rfl
theorem li_next_type : typeOf (.builtin "list_iterator.__next__") = pure (.type "wrapper_descriptor") := by show builtinType _ = _; rw [builtinType_eq_fast]; kernel_rfl
theorem wd_get : typeLookup (.type "wrapper_descriptor") "__get__" = pure (some (.builtin "wrapper_descriptor.__get__")) := by rw [typeLookup_type, builtinLookup_eq_fast]; kernel_rfl
theorem wd_set : typeLookup (.type "wrapper_descriptor") "__set__" = pure none := by rw [typeLookup_type, builtinLookup_eq_fast]; kernel_rfl
theorem wd_del : typeLookup (.type "wrapper_descriptor") "__delete__" = pure none := by rw [typeLookup_type, builtinLookup_eq_fast]; kernel_rfl
theorem wd_slot : Slot "wrapper_descriptor" "__get__" "wrapper_descriptor.__get__" :=
  .of (owner := "wrapper_descriptor") (n := "__get__") wd_get (by decide +kernel) (by decide +kernel) (by decide +kernel)
    (by first | exact .inl (by decide +kernel) | exact .inr (by decide +kernel)) (by rw [isSubtype_type]; kernel_rfl)
theorem wd_entry : entryFor table "wrapper_descriptor.__get__" = some Builtin.«wrapper_descriptor.__get__» := entryFor_of_tree (by kernel_rfl)
theorem wd_args (a b c : Value) : argsOk "wrapper_descriptor.__get__" ⟨[a, b, c], []⟩ := by unfold argsOk; kernel_rfl
theorem li_sub : isSubtype (.type "list_iterator") (.type "list_iterator") = pure true := by rw [isSubtype_type]; kernel_rfl
noncomputable abbrev nextObj (a : Addr) : Obj := { cls := .type "method-wrapper", data := .fields #[.builtin "list_iterator.__next__", .ref a] }
theorem wd_run {M : Model} {A : Around} {E : Value → Shared → Prop} {s : Shared} {a : Addr} {P : Fin → Shared → Prop} (hT : s.TypeIs (.ref a) "list_iterator") (h : P (.done (.ret (.ref s.heap.objs.size))) { s with heap := s.heap.push (nextObj a) }) :
    wpAny M A (Builtin.«wrapper_descriptor.__get__» ⟨[.builtin "list_iterator.__next__", .ref a, .type "list_iterator"], []⟩) P E s := by
  unfold Builtin.«wrapper_descriptor.__get__»
  refine wpAny_bind (wpAny_of_eq (a := (.builtin "list_iterator.__next__", some (.ref a), some (.type "list_iterator"))) (by first | rfl | kernel_rfl) ?_)
  have f1 := li_sub
  have e : (kfb_private% "ownerAndName") "list_iterator.__next__" = ("list_iterator", "__next__") := by first | decide +kernel | kernel_rfl
  show wpAny M A ((kfb_private% "checkInstance") (.builtin "list_iterator.__next__") (.ref a) >>= fun _ => newFields "method-wrapper" [.builtin "list_iterator.__next__", .ref a] >>= fun v => ret v) P E s
  have ck : (kfb_private% "checkInstance") (.builtin "list_iterator.__next__") (.ref a) = ((match (kfb_private% "ownerAndName") "list_iterator.__next__" with | (owner, name) => (pure ((name : Str), Value.type owner) : Sem (Str × Value))) >>= fun p => isInstance (.ref a) p.2 >>= fun b => if (!b) = true then (do
    rule "descr.get.wrong-instance"
    raiseError "TypeError" s!"descriptor '{p.1.toString}' for '{← typeName p.2}' objects doesn't apply to a '{← typeNameOf (.ref a)}' object") else pure ()) := by rfl
  rw [ck, e]
  refine wpAny_bind (wpAny_bind (wpAny_pure (wpAny_bind ?_)))
  refine wpAny_isInstance hT li_sub ?_
  exact wpAny_pure (wpAny_bind (wpAny_newObj_type (wpAny_pure h)))
set_option maxHeartbeats 1000000 in
theorem meets_ga_next (a : Addr) (xs : Array Value) (u : Tok) :
    Meets (Builtin.«object.__getattribute__» ⟨[.ref a, .str (Str.ofString "__next__") u], []⟩) (fun _ R s => s.heap.get? a = some { cls := .type "list_iterator", dict := none, data := .fields xs, slots := #[] } ∧ R (.ok (.ret (.ref s.heap.objs.size))) { s with heap := s.heap.push { cls := .type "method-wrapper", data := .fields #[.builtin "list_iterator.__next__", .ref a] } }) :=
  Meets.of_wp fun prog w A R s hs => by
    obtain ⟨hp, g, d, tk, os⟩ := s
    obtain ⟨hx, hs⟩ := hs
    have hT : (⟨hp, g, d, tk, os⟩ : Shared).TypeIs (.ref a) "list_iterator" := ⟨_, hx, rfl⟩
    have f1 := li_next
    have f2 := li_next_type
    have f3 := wd_get
    have f4 := wd_set
    have f5 := wd_del
    unfold Builtin.«object.__getattribute__»
    repeat (any_goals (first | assumption | ((with_reducible show wpAny _ _ (call (Value.builtin "wrapper_descriptor.__get__") _ _) _ _ _); refine wpAny_call_entry wd_slot li_next_type wd_entry (wd_run hT ?_) (wd_args _ _ _)) | wp_step))
    exact ⟨_, rfl, wpAny_pure ⟨_, rfl, hs⟩⟩
theorem ga_slot : Slot "list_iterator" "__getattribute__" "object.__getattribute__" :=
  .of (owner := "object") (n := "__getattribute__") li_ga (by decide +kernel) (by decide +kernel) (by decide +kernel)
    (by first | exact .inl (by decide +kernel) | exact .inr (by decide +kernel)) (by rw [isSubtype_type]; kernel_rfl)
theorem ga_entry : entryFor table "object.__getattribute__" = some Builtin.«object.__getattribute__» := entryFor_of_tree (by kernel_rfl)
theorem ga_args (a b : Value) : argsOk "object.__getattribute__" ⟨[a, b], []⟩ := by unfold argsOk; kernel_rfl
set_option maxHeartbeats 1000000 in
theorem getAttr_next {P : Program} {w : World} {A : Around} {E : Value → Shared → Prop} {s : Shared} {a : Addr} {xs : Array Value} {Q : Value → Shared → Prop} (hx : s.heap.get? a = some { cls := .type "list_iterator", dict := none, data := .fields xs, slots := #[] })
    (h : Q (.ref s.heap.objs.size) { s with heap := s.heap.push (nextObj a), toks := s.toks + 1 }) : wpAny (model P w) A (getAttr (.ref a) (Str.ofString "__next__") true) Q E s := by
  obtain ⟨hp, g, d, tk, os⟩ := s
  have hT : ∀ tk', (⟨hp, g, d, tk', os⟩ : Shared).TypeIs (.ref a) "list_iterator" := fun _ => ⟨_, hx, rfl⟩
  have f3 := li_ga
  have f4 := ga_slot.bind (.ref a)
  have f5 := li_getattr_none
  unfold getAttr getAttrBy
  repeat (any_goals (first | assumption | exact hT _ | ((with_reducible show wpAny _ _ (call (Value.builtin "object.__getattribute__") _ _) _ _ _); refine call_meets ga_slot (hT _) ga_entry (ga_args _ _) (meets_ga_next a xs _) ⟨hx, ?_⟩) | wp_step))
  exact handed_on rfl h

end
section
open PySem PySem.W PyProof.Rows PySem.Spec PySem.Calls
set_option maxRecDepth 100000
noncomputable abbrev iterObj (l : Addr) (i : Nat) : Obj := { cls := .type "list_iterator", data := .fields #[.ref l, .int i 0] }
theorem next_check (it : Addr) : checkBoundCall "list_iterator.__next__" ⟨[.ref it], []⟩ = pure () := by kernel_rfl
theorem next_quiet {as : Args} : (Code.builtin "list_iterator.__next__" as).quiet = true := Code.quiet_builtin _ (by decide +kernel)
section
variable {P : Program} {w : World} {A : Around} {E : Value → Shared → Prop} {s : Shared} {q it l : Addr} {i : Nat} {items : Array Value}
theorem next_call {Q : Value → Shared → Prop} (hq : s.heap.get? q = some (nextObj it))
    (h : wpAny (model P w) (A.under (.builtin "list_iterator.__next__" ⟨[.ref it], []⟩)) (Builtin.«list_iterator.__next__» ⟨[.ref it], []⟩) (fun fin s' => ∃ v, fin = .done (.ret v) ∧ Q v s') E s) :
    wpAny (model P w) A (call (.ref q) []) Q E s := by
  refine wpAny_call (codeAny_of_tree ?_)
  show wpAny _ _ (callAny (.ref q) _) _ _ _
  unfold callAny
  refine wpAny_bind (wpAny_load hq ?_)
  simp only [nextObj, show (Value.type "method-wrapper" == Value.type "method" || Value.type "method-wrapper" == Value.type "builtin_function_or_method" || Value.type "method-wrapper" == Value.type "method-wrapper") = true by decide, if_true]
  refine KFB.if_so (by decide) ?_
  refine wpAny_bind (wpAny_of_eq (a := ()) (next_check it) ?_)
  refine wpAny_bind (wpAny_pure (wpAny_pure ?_))
  refine ⟨next_quiet, codeAny_builtin entry_listiter_next (wpAny_mono h (fun fin s' z => ?_) fun _ _ z => z)⟩
  obtain ⟨v, rfl, hv⟩ := z
  exact hv
theorem next_item {x : Value} {Q : Value → Shared → Prop} (hq : s.heap.get? q = some (nextObj it)) (hit : s.heap.get? it = some (iterObj l i)) (hl : s.heap.IsList l items) (hx : items[i]? = some x)
    (hQ : ∀ h', h'.get? it = some (iterObj l (i + 1)) → Heap.SameBut it s.heap h' → Q x { s with heap := h' }) : wpAny (model P w) A (call (.ref q) []) Q E s := by
  refine next_call hq ?_
  obtain ⟨ol, hol, _, nl, hdl⟩ := hl
  show wpAny _ _ (field (.ref it) 0 >>= _) _ _ s
  refine wpAny_bind (wpAny_field hit rfl (x := .ref l) rfl ?_)
  show wpAny _ _ (if (Value.ref l == Value.none) = true then _ else _) _ _ s
  rw [if_neg (show ¬ ((Value.ref l == Value.none) = true) from Bool.false_ne_true)]
  show wpAny _ _ (field (.ref it) 1 >>= _) _ _ s
  refine wpAny_bind (wpAny_field hit rfl (x := .int i 0) rfl ?_)
  show wpAny _ _ (seqItems? (.ref l) >>= _) _ _ s
  refine wpAny_bind (wpAny_seqItems hol hdl ?_)
  simp only [Int.toNat_natCast, hx]
  refine wpAny_bind (wpAny_setField hit rfl (by simp) (wpAny_pure ⟨x, rfl, hQ _ ?_ (Heap.SameBut.update ..)⟩))
  exact Heap.get?_update_self _ hit rfl
theorem own_stop (args : List Value) : ownMembersOf (.type "StopIteration") args = #[] := by
  unfold ownMembersOf
  split <;> first | rfl | (rename_i h; revert h; decide) | simp_all
theorem next_end {Q : Value → Shared → Prop} (hh : A.handled = none) (hq : s.heap.get? q = some (nextObj it)) (hit : s.heap.get? it = some (iterObj l i)) (hl : s.heap.IsList l items) (hx : items[i]? = none)
    (hE : ∀ h₁ h' e, h₁.get? it = some { cls := .type "list_iterator", data := .fields #[.none, .int i 0] } → Heap.SameBut it s.heap h₁ → Heap.NewExc h₁ h' e "StopIteration" → E (.ref e) { s with heap := h' }) : wpAny (model P w) A (call (.ref q) []) Q E s := by
  refine next_call hq ?_
  obtain ⟨ol, hol, _, nl, hdl⟩ := hl
  show wpAny _ _ (field (.ref it) 0 >>= _) _ _ s
  refine wpAny_bind (wpAny_field hit rfl (x := .ref l) rfl ?_)
  show wpAny _ _ (if (Value.ref l == Value.none) = true then _ else _) _ _ s
  rw [if_neg (show ¬ ((Value.ref l == Value.none) = true) from Bool.false_ne_true)]
  show wpAny _ _ (field (.ref it) 1 >>= _) _ _ s
  refine wpAny_bind (wpAny_field hit rfl (x := .int i 0) rfl ?_)
  show wpAny _ _ (seqItems? (.ref l) >>= _) _ _ s
  refine wpAny_bind (wpAny_seqItems hol hdl ?_)
  simp only [Int.toNat_natCast, hx]
  refine wpAny_bind (wpAny_rule (wpAny_bind (wpAny_setField hit rfl (by simp) ?_)))
  show wpAny _ _ (newExc (.type "StopIteration") [] >>= _) _ _ _
  refine wpAny_bind ?_
  simp only [newExc, newTuple]
  refine wpAny_bind (wpAny_newObj_type ?_ (by size_fits))
  refine wpAny_bind (m := firstArgMember _ _) (wpAny_of_eq (a := Value.none) (by first | rfl | (simp only [firstArgMember]; rfl)) ?_)
  rw [own_stop]
  refine wpAny_newObj_type ?_ (by size_fits)
  simp only [raiseNew]
  refine wpAny_bind (wpAny_handled ?_)
  rw [show (A.under (.builtin "list_iterator.__next__" ⟨[.ref it], []⟩)).handled = none from hh]
  refine wpAny_bind (wpAny_pure (wpAny_throw ?_))
  exact hE _ _ _ (Heap.get?_update_self _ hit rfl) (Heap.SameBut.update ..) ⟨fun b o hb => Heap.get?_push_of_some _ (Heap.get?_push_of_some _ hb), Heap.get?_none_of_le (by simp), _, .ref s.heap.objs.size, Heap.get?_push_size _ rfl, rfl, by simp⟩
end

end
section
open PySem PySem.W PyProof.Rows PySem.Spec PySem.Calls
set_option maxRecDepth 100000
theorem tl_add_str : typeLookup (.type "str") (PySem.dunder Operator.Add.info.snd) = pure (some (.builtin "str.__add__")) := by rw [show PySem.dunder Operator.Add.info.snd = Str.ofString "__add__" by decide +kernel, typeLookup_type, builtinLookup_eq_fast]; kernel_rfl
theorem tl_radd_str : typeLookup (.type "str") (dunderR Operator.Add.info.snd) = pure none := by rw [show dunderR Operator.Add.info.snd = Str.ofString "__radd__" by decide +kernel, typeLookup_type, builtinLookup_eq_fast]; kernel_rfl
theorem tl_add_int : typeLookup (.type "int") (PySem.dunder Operator.Add.info.snd) = pure (some (.builtin "int.__add__")) := by rw [show PySem.dunder Operator.Add.info.snd = Str.ofString "__add__" by decide +kernel, typeLookup_type, builtinLookup_eq_fast]; kernel_rfl
theorem tl_radd_int : typeLookup (.type "int") (dunderR Operator.Add.info.snd) = pure (some (.builtin "int.__radd__")) := by rw [show dunderR Operator.Add.info.snd = Str.ofString "__radd__" by decide +kernel, typeLookup_type, builtinLookup_eq_fast]; kernel_rfl
theorem tl_add_str' : typeLookup (.type "str") (Str.ofString "__add__") = pure (some (.builtin "str.__add__")) := by rw [typeLookup_type, builtinLookup_eq_fast]; kernel_rfl
theorem sub_int_str : isSubtype (.type "int") (.type "str") = pure false := by rw [isSubtype_type]; kernel_rfl
set_option maxHeartbeats 1000000 in
theorem add_str_int {P : Program} {w : World} {A : Around} {E : Value → Shared → Prop} {s : Shared} {x : Str} {t u : Tok} {n : Int} {Q : Value → Shared → Prop} (hh : A.handled = none)
    (h : ∀ h' tk e, Heap.NewExc s.heap h' e "TypeError" → E (.ref e) { s with heap := h', toks := tk }) : wpAny (model P w) A (binaryOp .Add (.str x t) (.int n u)) Q E s := by
  obtain ⟨hp, g, d, tk, os⟩ := s
  unfold binaryOp
  have f1 := tl_add_str
  have f2 := tl_radd_str
  have f3 := tl_add_int
  have f4 := tl_radd_int
  have f5 := sub_int_str
  have f7 := tl_add_str'
  have f6 := PySem.F.slot_int_radd.bind (.int n u)
  repeat (any_goals (first | assumption | ((with_reducible show wpAny _ _ (call (Value.builtin "int.__radd__") _ _) _ _ _); refine wpAny_call_entry PySem.F.slot_int_radd (typeIs_int _ n u) PySem.F.entry_int_radd (show wpAny _ _ (do rule "int.binary.not-an-int"; ret .notImplemented) _ _ _ from wpAny_bind (wpAny_rule (wpAny_pure ⟨_, rfl, ?_⟩))) (PySem.F.args_int_radd_2 _ _)) | ((with_reducible show wpAny _ _ (call (Value.builtin "str.__add__") _ _) _ _ _); refine wpAny_call_entry PySem.F.slot_str_add (typeIs_str _ x t) PySem.F.entry_str_add ?_ (PySem.F.args_str_add_2 _ _); unfold Builtin.«str.__add__») | wp_step))
  exact wpAny_raiseTypeError hh h (by decide +kernel)

end
section
theorem offG1 : True := by
  w_top off
  trivial
open PySem PySem.W PyProof.Rows
set_option maxRecDepth 100000
set_option maxHeartbeats 8000000
local macro_rules | `(tactic| k_mem) => `(tactic| first | exact List.Mem.head _ | ktr_member | (refine' List.mem_cons_of_mem _ ?_; k_mem) | (refine' mem_putA_ne ?_ ?_; k_mem; k_ne))
local macro_rules | `(tactic| walk_at "getMethod ref") => `(tactic| ((with_reducible show wpAny _ _ (getMethod (Value.ref _) (Str.ofString "get") _) _ _ _); k_dflt (refine kdg_method (knd := PySem.strKind _ _) (by k_asm) (by k_mem) (by k_asm) ?_)))
local macro_rules | `(tactic| walk_at "call builtin:dict.get") => `(tactic| (k_dflt (refine kdg_get1 (knd := PySem.strKind _ _) (by k_asm) (by k_mem) (by k_asm) (by k_asm) (strKind_is _ _ _ _) _ (by k_asm) ?_); (try dsimp only [Option.getD])))
local macro_rules | `(tactic| walk_at "setItem ref str") => `(tactic| (k_dflt (refine' kda_set (knd := PySem.strKind _ _) ?F ?N ?U ?d (strKind_is _ _ _ _) ?z ?_; (case F => k_asm); (case N => k_asm); (case U => k_updF); (case d => k_asm); (case z => (rw [sizeLine_eq]; omega))); intro h' o' F' N' hd'; (try dsimp only at N'); (try k_sweep)))
section
variable {w : World} {s₀ : Shared} {mg mb : Str → Option Value} {dp un : Nat} {gd : Option (List Code)} {cn : Str} {cs : Scope} {a : Addr} {ccd : Value} {cl : List (Str × Addr)} {outer : List Env} {A₀ : Around} {base h₀ : Heap} {L : Addr} {m : Str → Option Value} {news : List (Addr × Obj)} {s : Shared} {Q E : Value → Shared → Prop}
theorem gni (B : Below A₀ base outer h₀) (F : Fr h₀ L s.heap m) (X : (hd.heap_1 w.params).In h₀) (N : News h₀ L s.heap news) (T : Top hd.view_1 (looseW hd.view_1 [Str.ofString "_NodeInfo"]) (ExcName.means s₀.heap) mg mb h₀) (hk : cs.kind = .function) (hnd : (news.map (·.1)).Nodup)
    {σ σd d : Addr} {nds : List NA} {np : Str → Int} {sc : Str → List Str} {rv : Value} {npo nfi : Int} {x : Str} {t : Tok}
    (S : Sorter w news σ σd d nds np sc rv npo nfi) (hkl : nds.length ≤ 900) (hd : dp + 50 < recursionLimit) (hu : un + 80 < cLine)
    (ret : ∀ h' tk' news' nds' n, Fr h₀ L h' m → News h₀ L h' news' → (news'.map (·.1)).Nodup → Kept [d] news news' → bnd news ≤ bnd news' → n ∈ nds' → n.name = x →
      ((nds' = nds ∧ Sorter w news' σ σd d nds np sc rv npo nfi) ∨ ((∀ m ∈ nds, m.name ≠ x) ∧ nds' = nds ++ [n] ∧ (bnd news ≤ n.info ∧ bnd news ≤ n.idt ∧ bnd news ≤ n.sl) ∧ Sorter w news' σ σd d nds' (fun y => if y = x then 0 else np y) (fun y => if y = x then [] else sc y) rv npo nfi)) →
      Q (.ref n.info) { s with heap := h', toks := tk' }) :
    wpAny (model (PySem.Challenge.rw_mr0291_01.row.prog) w) (ktrTop dp un gd cn cs L a ccd cl outer) (call (.ref 87) [.ref σ, .str x t]) Q E s := by
  revert X; k_fill; intro X
  have hi := S.inst
  obtain ⟨e1, e2, e3, e4, k1, k2, k3, k4, t3, t4, hsd⟩ := S.dict
  obtain ⟨od, hdd, hod⟩ := S.n2i
  have lo := S.lo
  have hb1 := mem_lt hi
  have hb2 := mem_lt hsd
  have hb3 := mem_lt hdd
  have hkl' : (nds.map NA.pair).length ≤ 900 := by rw [List.length_map]; exact hkl
  have hva := valueAt_pair x nds
  cases hf : nds.find? fun n => n.name = x with
  | some n =>
    rw [hf] at hva
    replace hva : valueAt (nds.map NA.pair) x = some (Value.ref n.info) := hva
    have hn1 := List.mem_of_find?_eq_some hf
    have hn2 : n.name = x := by simpa using List.find?_some hf
    clear hf
    refine wpAny_call ?_
    k_dflt ktr_enter
    k_steps
    exact ret _ _ news nds n (by k_asm) (by k_asm) hnd (Kept.refl _ _) (Nat.le_refl _) hn1 hn2 (.inl ⟨rfl, S⟩)
  | none =>
    rw [hf] at hva
    replace hva : valueAt (nds.map NA.pair) x = none := hva
    have hfr : ∀ m ∈ nds, m.name ≠ x := fun m hm e => by
      have := List.find?_eq_none.mp hf m hm
      simp [e] at this
    clear hf
    refine wpAny_call ?_
    k_dflt ktr_enter
    k_steps
    exact ret _ _ _ _ _ (by k_asm) (by k_asm) (nodup_new hnd (by assumption) (by assumption) (by assumption)) (kept_cons (kept_cons (kept_cons kept_putA))) bnd_new (List.mem_append_right _ (.head _)) rfl (.inr ⟨hfr, rfl, new_le (by assumption) (by assumption) (by assumption), sorter_new S hnd hfr (by assumption) (by assumption) (by assumption) (by assumption)⟩)

theorem gni2 (B : Below A₀ base outer h₀) (F : Fr h₀ L s.heap m) (X : (hd.heap_1 w.params).In h₀) (N : News h₀ L s.heap news) (T : Top hd.view_1 (looseW hd.view_1 [Str.ofString "_NodeInfo"]) (ExcName.means s₀.heap) mg mb h₀) (hk : cs.kind = .function) (hnd : (news.map (·.1)).Nodup)
    {σ σd d : Addr} {nds : List NA} {np : Str → Int} {sc : Str → List Str} {rv : Value} {npo nfi : Int} {x : Str} {t : Tok}
    (S : Sorter w news σ σd d nds np sc rv npo nfi) (hkl : nds.length ≤ 900) (hz : (∀ m ∈ nds, m.name ≠ x) → np x = 0 ∧ sc x = []) (hd : dp + 50 < recursionLimit) (hu : un + 80 < cLine)
    (ret : ∀ h' tk' news' nds' n, Fr h₀ L h' m → News h₀ L h' news' → (news'.map (·.1)).Nodup → Kept [d] news news' → bnd news ≤ bnd news' → n ∈ nds' → n.name = x → Sorter w news' σ σd d nds' np sc rv npo nfi →
      (nds' = nds ∨ ((∀ m ∈ nds, m.name ≠ x) ∧ nds' = nds ++ [n] ∧ bnd news ≤ n.info ∧ bnd news ≤ n.idt ∧ bnd news ≤ n.sl)) →
      Q (.ref n.info) { s with heap := h', toks := tk' }) :
    wpAny (model (PySem.Challenge.rw_mr0291_01.row.prog) w) (ktrTop dp un gd cn cs L a ccd cl outer) (call (.ref 87) [.ref σ, .str x t]) Q E s := by
  refine gni B F X N T hk hnd S hkl hd hu fun h' tk' news' nds' n F' N' hnd' hK hb hn hx hS => ?_
  rcases hS with ⟨e, S'⟩ | ⟨hfr, e, hi, S'⟩
  · subst e; exact ret h' tk' news' nds' n F' N' hnd' hK hb hn hx S' (.inl rfl)
  · obtain ⟨z1, z2⟩ := hz hfr
    have f1 : (fun y => if y = x then 0 else np y) = np := by funext y; by_cases e : y = x <;> simp [e, z1]
    have f2 : (fun y => if y = x then [] else sc y) = sc := by funext y; by_cases e : y = x <;> simp [e, z2]
    rw [f1, f2] at S'
    exact ret h' tk' news' nds' n F' N' hnd' hK hb hn hx S' (.inr ⟨hfr, e, hi⟩)
end

end
section
theorem offG2 : True := by
  w_top off
  trivial
open PySem PySem.W PyProof.Rows
set_option maxRecDepth 100000
set_option maxHeartbeats 8000000
local macro_rules | `(tactic| k_mem) => `(tactic| first | exact List.Mem.head _ | ktr_member | (refine' List.mem_cons_of_mem _ ?_; k_mem) | (refine' mem_putA_ne ?_ ?_; k_mem; k_ne))
section
variable {w : World} {s₀ : Shared} {mg mb : Str → Option Value} {dp un : Nat} {gd : Option (List Code)} {cn : Str} {cs : Scope} {a : Addr} {ccd : Value} {cl : List (Str × Addr)} {outer : List Env} {A₀ : Around} {base h₀ : Heap} {L : Addr} {m : Str → Option Value} {news : List (Addr × Obj)} {s : Shared} {Q E : Value → Shared → Prop}
set_option pp.maxSteps 20000 in
theorem add1 (B : Below A₀ base outer h₀) (F : Fr h₀ L s.heap m) (X : (hd.heap_1 w.params).In h₀) (N : News h₀ L s.heap news) (T : Top hd.view_1 (looseW hd.view_1 [Str.ofString "_NodeInfo"]) (ExcName.means s₀.heap) mg mb h₀) (hk : cs.kind = .function) (hnd : (news.map (·.1)).Nodup)
    {σ σd d : Addr} {nds : List NA} {np : Str → Int} {sc : Str → List Str} {npo nfi : Int} {x y : Str} {t u : Tok} {rest : List (Addr × Obj)}
    (R : SR w news σ σd d nds np sc .none npo nfi rest) (hkl : nds.length ≤ 800) (hscl : ∀ z, (sc z).length ≤ 800) (hz : ∀ z, (∀ m ∈ nds, m.name ≠ z) → np z = 0 ∧ sc z = []) (hd : dp + 60 < recursionLimit) (hu : un + 100 < cLine)
    (ret : ∀ h' tk' news' nds', Fr h₀ L h' m → News h₀ L h' news' → (news'.map (·.1)).Nodup → SR w news' σ σd d nds' (fun z => if z = x then np x + 1 else np z) (fun z => if z = y then sc y ++ [x] else sc z) .none npo nfi rest → nds'.map (·.name) = ins (ins (nds.map (·.name)) x) y → Q .none { s with heap := h', toks := tk' })
    : wpAny (model (PySem.Challenge.rw_mr0291_01.row.prog) w) (ktrTop dp un gd cn cs L a ccd cl outer) (call (.ref 94) [.ref σ, .str x t, .str y u]) Q E s := by
  revert X; k_fill; intro X
  have hi := R.S.inst
  refine sealG fun GG1 hGG1 => ?_
  obtain ⟨e1, e2, e3, e4, k1, k2, k3, k4, t3, t4, hsd⟩ := R.S.dict
  refine hGG1 ?_
  have hb1 := mem_lt hi
  have hb2 := mem_lt hsd
  have hzx := hz x
  refine wpAny_call ?_
  k_dflt (refine' kp_rest ?k1 ?k2 ?k3 ?k4 ?k5 ?kA ?kF ?kK ?k6 ?k7 ?k8 ?kV ?kP ?kG ?kB ?_ ?c2 ?c3 ?c4 ?c5; (case kA => exact rfl); (case kF => exact rfl); (case kK => assumption); (case k1 => k_asm); (case k2 => k_asm); (case k3 => k_asm); (case k4 => k_asm); (case k5 => k_asm); (case k6 => k_is); (case k7 => k_is); (case k8 => k_room); (case kV => kl_lit); (case kP => exact rfl); (case kG => exact fun _ => rfl); (case kB => exact fun _ => locs rfl); (case c5 => decide); (case c2 => exact rfl); (case c3 => exact rfl); (case c4 => exact rfl); k_whole; intro D' g' L' h' l1 FG' F' N' B' X' T'; (try k_lt l1); (try dsimp only); (try k_lift B'); (try k_fold))
  repeat' ((fail_if_success (with_reducible show wpAny _ _ (PySem.call (Value.ref 87) _ _) _ _ _)); (first | (k_unfold; (try dsimp only)) | (k_end; wrow_close) | ((with_reducible show wpAny _ _ (exec _ _) _ _ { heap := _, gens := _, drawn := _, toks := _ + 1, os := _ }); refine genT ?_; intro __tkT) | ((with_reducible show wpAny _ _ (exec _ _) _ _ _); refine sealQ ?_; intro qQ; walk1) | walk1 | (dsimp only; walk1) | (leave1; try dsimp only)))
  have R0 := R.cons (D', ({ cls := Value.type "tuple", data := Data.seq #[Value.str y u] } : Obj)) l1
  have hnd0 : (((D', ({ cls := Value.type "tuple", data := Data.seq #[Value.str y u] } : Obj)) :: news).map (·.1)).Nodup := nodup_cons_of hnd l1
  k_dflt (refine' gni2 (s₀ := s₀) ?B ?F ?X ?N ?T ?hk ?hnd R0.S ?hkl ?hz ?hd ?hu ?_; (case B => k_asm); (case F => k_asm); (case X => k_asm); (case N => k_asm); (case T => k_asm); (case hk => exact rfl); (case hnd => assumption); (case hd => ktr_room); (case hu => ktr_units))
  case hkl => omega
  case hz => assumption
  intro h1 tk1 news1 nds1 n1 F1 N1 hnd1 hK1 hb1 hn1 hx1 S1 hc1
  have R1 := R0.gni S1 hK1 hc1
  refine sealG fun GG2 hGG2 => ?_
  subst hx1
  have hD1 : (D', ({ cls := Value.type "tuple", data := Data.seq #[Value.str y u] } : Obj)) ∈ news1 := R1.sub _ (.head _)
  obtain ⟨nt1, npt1, hinf1⟩ := S1.info n1 hn1
  refine hGG2 ?_
  have hidt1 := S1.idt n1 hn1
  repeat' ((fail_if_success (with_reducible show wpAny _ _ (exec (Stmt.For _ _ _ _ _) _) _ _ _)); (first | (k_unfold; (try dsimp only)) | (k_end; wrow_close) | ((with_reducible show wpAny _ _ (exec _ _) _ _ { heap := _, gens := _, drawn := _, toks := _ + 1, os := _ }); refine genT ?_; intro __tkT) | ((with_reducible show wpAny _ _ (exec _ _) _ _ _); refine sealQ ?_; intro qQ; walk1) | walk1 | (dsimp only; walk1) | (leave1; try dsimp only)))
  refine for_led g' rfl rfl ?_
  repeat' ((fail_if_success (with_reducible show wpAny _ _ (pyIter _) _ _ _)); (first | (k_unfold; (try dsimp only)) | (k_end; wrow_close) | ((with_reducible show wpAny _ _ (exec _ _) _ _ { heap := _, gens := _, drawn := _, toks := _ + 1, os := _ }); refine genT ?_; intro __tkT) | ((with_reducible show wpAny _ _ (exec _ _) _ _ _); refine sealQ ?_; intro qQ; walk1) | walk1 | (dsimp only; walk1) | (leave1; try dsimp only)))
  have hz1 : ∀ z, (∀ m ∈ nds1, m.name ≠ z) → (if z = n1.name then np n1.name + 1 else np z) = 0 ∧ sc z = [] := by
    intro z hzz
    rw [if_neg (hzz n1 hn1).symm]
    exact hz z fun m hm => by
      rcases hc1 with rfl | ⟨_, rfl, _⟩
      · exact hzz m hm
      · exact hzz m (List.mem_append_left _ hm)
  rename News g' L' _ (putA _ _ _) => N2
  rename Fr g' L' _ _ => F2
  have R2 := R1.setNp N2 hnd1 hn1
  k_dflt refine forAt_tuple rfl F2 N2 (nodup_putA hnd1) (R2.sub _ (.head _)) (fun i m₁ news₁ => (i = 0 ∧ m₁ = _ ∧ news₁ = _) ∨ (i = 1 ∧ ∃ nds', SR w news₁ σ σd d nds' (fun z => if z = n1.name then np n1.name + 1 else np z) (fun z => if z = y then sc y ++ [n1.name] else sc z) .none npo nfi rest ∧ nds'.map (·.name) = ins (ins (nds.map (·.name)) n1.name) y)) (.inl ⟨rfl, rfl, rfl⟩) ?turn ?done
  case done =>
    intro h' tk m' news' F' N' hnd' hD' hJ
    rcases hJ with ⟨e, _⟩ | ⟨_, nds', R', hnm⟩
    · simp at e
    repeat' ((first | (k_unfold; (try dsimp only)) | (k_end; wrow_close) | ((with_reducible show wpAny _ _ (exec _ _) _ _ { heap := _, gens := _, drawn := _, toks := _ + 1, os := _ }); refine genT ?_; intro __tkT) | ((with_reducible show wpAny _ _ (exec _ _) _ _ _); refine sealQ ?_; intro qQ; walk1) | walk1 | (dsimp only; walk1) | (leave1; try dsimp only)))
    exact ret _ _ news' nds' (by k_asm) (by k_asm) hnd' R' hnm
  case turn =>
    intro I i v m₁ news₁ h tk io hv hJ hD2 F2' N2' hnd2
    refine sealQ ?_; intro qT
    rcases hJ with ⟨rfl, rfl, rfl⟩ | ⟨rfl, _⟩
    rotate_left
    · simp at hv
    have hv' : v = .str y u := by simpa using hv.symm
    refine sealG fun GG3 hGG3 => ?_
    subst hv'
    clear hv
    have hndI := List.nodup_cons.mp hnd2
    have R2' := R2.consI (io := io) hndI.1
    have hDI : D' ≠ I := fun e => hndI.1 (by rw [← e]; exact List.mem_map.mpr ⟨_, hD2, rfl⟩)
    have hrI : ∀ p ∈ (D', ({ cls := Value.type "tuple", data := Data.seq #[Value.str y u] } : Obj)) :: rest, p.1 ≠ I := fun p hp e => hndI.1 (by rw [← e]; exact List.mem_map.mpr ⟨p, R2.sub p hp, rfl⟩)
    have hzy := hz1 y
    have hkl1 : nds1.length ≤ 801 := by rcases hc1 with rfl | ⟨_, rfl, _⟩ <;> (try simp only [List.length_append, List.length_cons, List.length_nil]) <;> omega
    have hi2 := R2'.S.inst
    obtain ⟨f1, f2, f3, f4, l1', l2', l3', l4', u3, u4, hsd2⟩ := R2'.S.dict
    refine hGG3 ?_
    have hi2b := mem_lt hi2
    have hsd2b := mem_lt hsd2
    repeat' ((fail_if_success (with_reducible show wpAny _ _ (PySem.call (Value.ref 87) _ _) _ _ _)); (first | (k_unfold; (try dsimp only)) | (k_end; wrow_close) | ((with_reducible show wpAny _ _ (exec _ _) _ _ { heap := _, gens := _, drawn := _, toks := _ + 1, os := _ }); refine genT ?_; intro __tkT) | ((with_reducible show wpAny _ _ (exec _ _) _ _ _); refine sealQ ?_; intro qQ; walk1) | walk1 | (dsimp only; walk1) | (leave1; try dsimp only)))
    k_dflt (refine' gni2 (s₀ := s₀) ?B ?F ?X ?N ?T ?hk ?hnd R2'.S ?hkl ?hz ?hd ?hu ?_; (case B => k_asm); (case F => k_asm); (case X => k_asm); (case N => k_asm); (case T => k_asm); (case hk => exact rfl); (case hnd => assumption); (case hd => ktr_room); (case hu => ktr_units))
    case hkl => omega
    case hz => assumption
    intro h3 tk3 news3 nds3 n3 F3 N3 hnd3 hK3 hb3 hn3 hx3 S3 hc3
    have R3 := R2'.gni S3 hK3 hc3
    refine sealG fun GG4 hGG4 => ?_
    subst hx3
    obtain ⟨vs3, ep3, hvs3, hsl3⟩ := S3.sl n3 hn3
    obtain ⟨nt3, npt3, hinf3⟩ := S3.info n3 hn3
    refine hGG4 ?_
    have hidt3 := S3.idt n3 hn3
    repeat' ((fail_if_success (with_reducible show wpAny _ _ (PySem.call (Value.builtin "list.append") _ _) _ _ _)); (first | (k_unfold; (try dsimp only)) | (k_end; wrow_close) | ((with_reducible show wpAny _ _ (exec _ _) _ _ { heap := _, gens := _, drawn := _, toks := _ + 1, os := _ }); refine genT ?_; intro __tkT) | ((with_reducible show wpAny _ _ (exec _ _) _ _ _); refine sealQ ?_; intro qQ; walk1) | walk1 | (dsimp only; walk1) | (leave1; try dsimp only)))
    have hsz3 : vs3.toArray.size ≤ sizeLine := by
      rw [sizeLine_eq, List.size_toArray, strs_len hvs3]
      have := hscl n3.name
      omega
    k_dflt (refine append_K (by k_asm) (by k_asm) (upd_putA hnd3 hsl3) ?_ hsz3)
    intro h4 F4 N4
    rw [List.push_toArray] at N4
    have R4 := R3.setSc (ep := ep3 + 1) hnd3 hn3 (strs_snoc hvs3 n1.name t)
    repeat' ((first | (k_unfold; (try dsimp only)) | (k_end; wrow_close) | ((with_reducible show wpAny _ _ (exec _ _) _ _ { heap := _, gens := _, drawn := _, toks := _ + 1, os := _ }); refine genT ?_; intro __tkT) | ((with_reducible show wpAny _ _ (exec _ _) _ _ _); refine sealQ ?_; intro qQ; walk1) | walk1 | (dsimp only; walk1) | (leave1; try dsimp only)))
    have hnm3 := names_ins hn3 rfl hc3
    rw [names_ins hn1 rfl hc1] at hnm3
    exact TurnEnd.go (by k_asm) (Mine.News.sub N4 (dropA_sub (R4.sub _ (.head _)))) (nodup_dropA (nodup_putA hnd3)) (fun p hp => by rw [List.mem_singleton.mp hp]; exact mem_dropA.mpr ⟨R4.sub _ (.tail _ (.head _)), hDI⟩) (.inr ⟨by first | exact trivial | exact rfl, nds3, (R4.drop hrI).less fun p hp => .tail _ hp, hnm3⟩)
end

end
section
theorem offG3 : True := by
  w_top off
  trivial
open PySem PySem.W PyProof.Rows
set_option maxRecDepth 100000
set_option maxHeartbeats 8000000
local macro_rules | `(tactic| k_mem) => `(tactic| first | exact List.Mem.head _ | ktr_member | (refine' List.mem_cons_of_mem _ ?_; k_mem) | (refine' mem_putA_ne ?_ ?_; k_mem; k_ne))
local macro_rules | `(tactic| walk_at "subscriptTail") => `(tactic| (k_dflt (refine kda_item (knd := PySem.strKind _ _) (by k_asm) (by k_mem) (by k_asm) (strKind_is _ _ _ _) (by k_asm) ?_)))
section
variable {w : World} {s₀ : Shared} {mg mb : Str → Option Value} {dp un : Nat} {gd : Option (List Code)} {cn : Str} {cs : Scope} {a : Addr} {ccd : Value} {cl : List (Str × Addr)} {outer : List Env} {A₀ : Around} {base h₀ : Heap} {L : Addr} {m : Str → Option Value} {news : List (Addr × Obj)} {s : Shared} {Q E : Value → Shared → Prop}
set_option pp.maxSteps 20000 in
theorem getReady (B : Below A₀ base outer h₀) (F : Fr h₀ L s.heap m) (X : (hd.heap_1 w.params).In h₀) (N : News h₀ L s.heap news) (T : Top hd.view_1 (looseW hd.view_1 [Str.ofString "_NodeInfo"]) (ExcName.means s₀.heap) mg mb h₀) (hk : cs.kind = .function) (hnd : (news.map (·.1)).Nodup)
    {σ σd d rl : Addr} {nds : List NA} {np : Str → Int} {sc : Str → List Str} {npo nfi : Int} {vs : List Value} {rs : List Str} {ep : Nat} {rest : List (Addr × Obj)}
    (R : SR w news σ σd d nds np sc (.ref rl) npo nfi ((rl, W.listOf vs.toArray ep) :: rest)) (hrr : ∀ p ∈ rest, p.1 ≠ rl) (hvs : StrsAre vs rs) (hrs : ∀ r ∈ rs, ∃ n ∈ nds, n.name = r) (hrl9 : rs.length ≤ 900) (hd : dp + 60 < recursionLimit) (hu : un + 100 < cLine)
    (ret : ∀ h' tk' news' D ep', Fr h₀ L h' m → News h₀ L h' news' → (news'.map (·.1)).Nodup → SR w news' σ σd d nds (fun z => if z ∈ rs then -1 else np z) sc (.ref rl) (npo + rs.length) nfi ((rl, W.listOf #[] ep') :: (D, ({ cls := Value.type "tuple", data := Data.seq vs.toArray } : Obj)) :: rest) → Q (.ref D) { s with heap := h', toks := tk' })
    : wpAny (model (PySem.Challenge.rw_mr0291_01.row.prog) w) (ktrTop dp un gd cn cs L a ccd cl outer) (call (.ref 106) [.ref σ]) Q E s := by
  revert X; k_fill; intro X
  have hi := R.S.inst
  refine sealG fun GG1 hGG1 => ?_
  obtain ⟨e1, e2, e3, e4, k1, k2, k3, k4, t3, t4, hsd⟩ := R.S.dict
  refine hGG1 ?_
  have hb1 := mem_lt hi
  have hb2 := mem_lt hsd
  have hrl := R.sub _ (.head _)
  have hrlb := mem_lt hrl
  have hvl := strs_len hvs
  refine wpAny_call ?_
  k_dflt (refine' code_def ?k1 ?k2 ?k3 ?k4 ?k5 ?kA ?kF ?kK ?k6 ?k7 ?k8 ?k9 ?kB ?_ ?c2 ?c3 ?c4 ?c5; (case kA => exact rfl); (case kF => exact rfl); (case kK => assumption); (case k1 => k_asm); (case k2 => k_asm); (case k3 => k_asm); (case k4 => k_asm); (case k5 => k_asm); (case k6 => k_is); (case k7 => k_is); (case k8 => ktr_room); (case k9 => exact BindsTo.of_eq rfl); (case c5 => decide); (case kB => exact locs rfl); (case c2 => exact rfl); (case c3 => exact rfl); (case c4 => exact rfl); k_whole; intro g' L' h' FG' F' N' B' X' T'; (try dsimp only); (try k_fold))
  repeat' ((fail_if_success (with_reducible show wpAny _ _ (PySem.call (Value.type "tuple") _ _) _ _ _)); (first | (k_unfold; (try dsimp only)) | (k_end; wrow_close) | ((with_reducible show wpAny _ _ (exec _ _) _ _ { heap := _, gens := _, drawn := _, toks := _ + 1, os := _ }); refine genT ?_; intro __tkT) | ((with_reducible show wpAny _ _ (exec _ _) _ _ _); refine sealQ ?_; intro qQ; walk1) | walk1 | (dsimp only; walk1) | (leave1; try dsimp only)))
  k_dflt (refine kde_tupleOf (zs := vs) (by k_asm) (by k_asm) (News.isList (by k_asm) hrl) (by rw [List.size_toArray]; omega) rfl ?_)
  intro D' h1 F1 N1 l1
  k_lt l1
  repeat' ((fail_if_success (with_reducible show wpAny _ _ (exec (Stmt.For _ _ _ _ _) _) _ _ _)); (first | (k_unfold; (try dsimp only)) | (k_end; wrow_close) | ((with_reducible show wpAny _ _ (exec _ _) _ _ { heap := _, gens := _, drawn := _, toks := _ + 1, os := _ }); refine genT ?_; intro __tkT) | ((with_reducible show wpAny _ _ (exec _ _) _ _ _); refine sealQ ?_; intro qQ; walk1) | walk1 | (dsimp only; walk1) | (leave1; try dsimp only)))
  refine for_led g' rfl rfl ?_
  repeat' ((fail_if_success (with_reducible show wpAny _ _ (pyIter _) _ _ _)); (first | (k_unfold; (try dsimp only)) | (k_end; wrow_close) | ((with_reducible show wpAny _ _ (exec _ _) _ _ { heap := _, gens := _, drawn := _, toks := _ + 1, os := _ }); refine genT ?_; intro __tkT) | ((with_reducible show wpAny _ _ (exec _ _) _ _ _); refine sealQ ?_; intro qQ; walk1) | walk1 | (dsimp only; walk1) | (leave1; try dsimp only)))
  have hnd1 : (((D', ({ cls := Value.type "tuple", data := Data.seq vs.toArray } : Obj)) :: news).map (·.1)).Nodup := nodup_cons_of hnd l1
  have R1 := R.cons (D', ({ cls := Value.type "tuple", data := Data.seq vs.toArray } : Obj)) l1
  k_dflt refine forAt_tuple rfl (by k_asm) (by k_asm) hnd1 (.head _) (fun i m₁ news₁ => SameBut1 (Str.ofString "node") m₁ _ ∧ SR w news₁ σ σd d nds (fun z => if z ∈ rs.take i then -1 else np z) sc (.ref rl) npo nfi ((D', ({ cls := Value.type "tuple", data := Data.seq vs.toArray } : Obj)) :: (rl, W.listOf vs.toArray ep) :: rest)) ⟨SameBut1.refl _ _, by simpa using R1⟩ ?turn ?done
  case turn =>
    intro I i v m₁ news₁ h tk io hv hJ hD2 F2 N2 hnd2
    refine sealQ ?_; intro qT
    refine sealG fun GG2 hGG2 => ?_
    obtain ⟨hm₁, R2⟩ := hJ
    rw [map_set hm₁] at F2
    obtain ⟨r, t, hr, rfl⟩ := strs_get hvs (by simpa using hv)
    obtain ⟨n, hn, rfl⟩ := hrs r (List.mem_of_getElem? hr)
    have hva := R2.S.at hn
    obtain ⟨od, hdd, hod⟩ := R2.S.n2i
    obtain ⟨nt, npt, hinf⟩ := R2.S.info n hn
    refine hGG2 ?_
    have hidt := R2.S.idt n hn
    have hIn := neI hnd2 hinf
    have hnd3 := (List.nodup_cons.mp hnd2).2
    repeat' ((first | (k_unfold; (try dsimp only)) | (k_end; wrow_close) | ((with_reducible show wpAny _ _ (exec _ _) _ _ { heap := _, gens := _, drawn := _, toks := _ + 1, os := _ }); refine genT ?_; intro __tkT) | ((with_reducible show wpAny _ _ (exec _ _) _ _ _); refine sealQ ?_; intro qQ; walk1) | walk1 | (dsimp only; walk1) | (leave1; try dsimp only)))
    rename News g' L' _ ((I, io) :: putA _ _ _) => N3
    have R3 := R2.setNp (Mine.News.sub N3 fun p hp => .tail _ hp) hnd3 hn
    rw [np_take hr] at R3
    exact TurnEnd.go (by k_asm) N3 (nodupI_putA hnd2) (fun p hp => by rw [List.mem_singleton.mp hp]; exact R3.sub _ (.head _)) ⟨SameBut1.set, R3⟩
  case done =>
    intro h4 tk4 m4 news4 F4 N4 hnd4 hD4 hJ
    refine sealG fun GG3 hGG3 => ?_
    obtain ⟨hm4, R4⟩ := hJ
    replace F4 := fr_same F4 hm4
    have htk : rs.take vs.toArray.size = rs := by rw [List.size_toArray, hvl, List.take_length]
    rw [htk] at R4
    have hi4 := R4.S.inst
    obtain ⟨a1, a2, a3, a4, c1, c2, c3, c4, d3, d4, hsd4⟩ := R4.S.dict
    refine hGG3 ?_
    have hi4b := mem_lt hi4
    have hsd4b := mem_lt hsd4
    have hrl4 := R4.sub _ (.tail _ (.head _))
    repeat' ((fail_if_success (with_reducible show wpAny _ _ (PySem.call (Value.builtin "list.clear") _ _) _ _ _)); (first | (k_unfold; (try dsimp only)) | (k_end; wrow_close) | ((with_reducible show wpAny _ _ (exec _ _) _ _ { heap := _, gens := _, drawn := _, toks := _ + 1, os := _ }); refine genT ?_; intro __tkT) | ((with_reducible show wpAny _ _ (exec _ _) _ _ _); refine sealQ ?_; intro qQ; walk1) | walk1 | (dsimp only; walk1) | (leave1; try dsimp only)))
    k_dflt (refine clear_led (by k_asm) (by k_asm) hnd4 hrl4 (by rw [sizeLine_eq, List.size_toArray]; omega) ?_)
    intro h5 ep5 F5 N5
    have hrlD : (rl : Nat) ≠ D' := ne_of_cls hnd4 hrl4 hD4 (by simp)
    have R4' : SR w news4 σ σd d nds _ sc (.ref rl) npo nfi ((rl, W.listOf vs.toArray ep) :: (D', ({ cls := Value.type "tuple", data := Data.seq vs.toArray } : Obj)) :: rest) := R4.less fun p hp => by
      rcases List.mem_cons.mp hp with rfl | hp
      · exact .tail _ (.head _)
      · rcases List.mem_cons.mp hp with rfl | hp
        · exact .head _
        · exact .tail _ (.tail _ hp)
    have R5 := R4'.putRest (o' := W.listOf #[] ep5) fun p hp => by
      rcases List.mem_cons.mp hp with rfl | hp
      · exact Ne.symm hrlD
      · exact hrr p hp
    have hnd5 := nodup_putA (d := rl) (o := W.listOf #[] ep5) hnd4
    have hi5 := R5.S.inst
    refine sealG fun GG4 hGG4 => ?_
    obtain ⟨a1, a2, a3, a4, c1, c2, c3, c4, d3, d4, hsd5⟩ := R5.S.dict
    refine hGG4 ?_
    have hD5 := R5.sub _ (.tail _ (.head _))
    repeat' ((fail_if_success (with_reducible show wpAny _ _ (PySem.call (Value.builtin "len") _ _) _ _ _)); (first | (k_unfold; (try dsimp only)) | (k_end; wrow_close) | ((with_reducible show wpAny _ _ (exec _ _) _ _ { heap := _, gens := _, drawn := _, toks := _ + 1, os := _ }); refine genT ?_; intro __tkT) | ((with_reducible show wpAny _ _ (exec _ _) _ _ _); refine sealQ ?_; intro qQ; walk1) | walk1 | (dsimp only; walk1) | (leave1; try dsimp only)))
    k_dflt (refine ktm_lenK (by k_asm) hD5 (by omega) rfl ?_)
    repeat' ((first | (k_unfold; (try dsimp only)) | (k_end; wrow_close) | ((with_reducible show wpAny _ _ (exec _ _) _ _ { heap := _, gens := _, drawn := _, toks := _ + 1, os := _ }); refine genT ?_; intro __tkT) | ((with_reducible show wpAny _ _ (exec _ _) _ _ _); refine sealQ ?_; intro qQ; walk1) | walk1 | (dsimp only; walk1) | (leave1; try dsimp only)))
    rename News h₀ L _ (putA σd _ _) => kN
    have R6 := R5.setDict kN hnd5
    rw [hvl] at R6 kN
    exact ret _ _ _ _ _ (by k_asm) kN (nodup_putA hnd5) R6
end

end
section
theorem offG4 : True := by
  w_top off
  trivial
open PySem PySem.W PyProof.Rows
set_option maxRecDepth 100000
set_option maxHeartbeats 8000000
local macro_rules | `(tactic| walk_at "subscriptTail") => `(tactic| (k_dflt (refine kda_item (knd := PySem.strKind _ _) (by k_asm) (by k_mem) (by k_asm) (strKind_is _ _ _ _) (by k_asm) ?_)))
local macro_rules | `(tactic| walk_at "getMethod ref") => `(tactic| ((with_reducible show wpAny _ _ (getMethod (Value.ref _) (Str.ofString "get") _) _ _ _); k_dflt (refine kdg_method (knd := PySem.strKind _ _) (by k_asm) (by k_mem) (by k_asm) ?_)))
local macro_rules | `(tactic| walk_at "call builtin:dict.get") => `(tactic| (k_dflt (refine kdg_get1 (knd := PySem.strKind _ _) (by k_asm) (by k_mem) (by k_asm) (by k_asm) (strKind_is _ _ _ _) _ (by k_asm) ?_); (try dsimp only [Option.getD])))
section
variable {w : World} {s₀ : Shared} {mg mb : Str → Option Value} {dp un : Nat} {gd : Option (List Code)} {cn : Str} {cs : Scope} {a : Addr} {ccd : Value} {cl : List (Str × Addr)} {outer : List Env} {A₀ : Around} {base h₀ : Heap} {L : Addr} {m : Str → Option Value} {news : List (Addr × Obj)} {s : Shared} {Q E : Value → Shared → Prop}
set_option pp.maxSteps 20000 in
theorem doneAll (B : Below A₀ base outer h₀) (F : Fr h₀ L s.heap m) (X : (hd.heap_1 w.params).In h₀) (N : News h₀ L s.heap news) (T : Top hd.view_1 (looseW hd.view_1 [Str.ofString "_NodeInfo"]) (ExcName.means s₀.heap) mg mb h₀) (hk : cs.kind = .function) (hnd : (news.map (·.1)).Nodup)
    {σ σd d rl : Addr} {nds : List NA} {np : Str → Int} {sc : Str → List Str} {npo nfi : Int} {vs : List Value} {rs : List Str} {ep : Nat} {rest : List (Addr × Obj)}
    (R : SR w news σ σd d nds np sc (.ref rl) npo nfi ((rl, W.listOf #[] ep) :: rest)) (hrr : ∀ p ∈ rest, p.1 ≠ rl) (hvs : StrsAre vs rs) (hrs : ∀ r ∈ rs, ∃ n ∈ nds, n.name = r) (hscn : ∀ r, ∀ z ∈ sc r, ∃ n ∈ nds, n.name = z)
    (hout : ∀ i r, rs[i]? = some r → (finAll sc (rs.take i) (np, [])).1 r = -1) (hscl : ∀ z, (sc z).length ≤ 800) (hrl9 : rs.length ≤ 900) (hd : dp + 60 < recursionLimit) (hu : un + 100 < cLine)
    (ret : ∀ h' tk' news' ws ep', Fr h₀ L h' m → News h₀ L h' news' → (news'.map (·.1)).Nodup → StrsAre ws (finAll sc rs (np, [])).2 → SR w news' σ σd d nds (finAll sc rs (np, [])).1 sc (.ref rl) npo (nfi + rs.length) ((rl, W.listOf ws.toArray ep') :: rest) → Q .none { s with heap := h', toks := tk' })
    : codeAny (model (PySem.Challenge.rw_mr0291_01.row.prog) w) (ktrTop dp un gd cn cs L a ccd cl outer) (.call (.ref 127) ⟨.ref σ :: vs, []⟩) (fun r s' => match r with | .ok (.ret v) => Q v s' | .ok _ => False | .error e => E e s') s := by
  revert X; k_fill; intro X
  have hi := R.S.inst
  refine sealG fun GG1 hGG1 => ?_
  obtain ⟨e1, e2, e3, e4, k1, k2, k3, k4, t3, t4, hsd⟩ := R.S.dict
  refine hGG1 ?_
  have hb1 := mem_lt hi
  have hb2 := mem_lt hsd
  have hrl := R.sub _ (.head _)
  have hrlb := mem_lt hrl
  have hvl := strs_len hvs
  k_dflt (refine' enter_rest (vs := vs) (binds := fun t => [(Str.ofString "self", .ref σ), (Str.ofString "nodes", t)]) ?k1 ?k2 ?k3 ?k4 ?k5 ?kA ?kF ?kK ?k6 ?k7 ?k8 ?kz ?kb ?kB ?_ ?c2 ?c3 ?c4 ?c5; (case kA => exact rfl); (case kF => exact rfl); (case kK => assumption); (case k1 => k_asm); (case k2 => k_asm); (case k3 => k_asm); (case k4 => k_asm); (case k5 => k_asm); (case k6 => k_is); (case k7 => k_is); (case k8 => k_room); (case kz => (rw [sizeLine_eq]; omega)))
  case kb => (cases vs <;> kernel_rfl)
  case kB => exact fun _ => locs rfl
  case c5 => decide
  case c2 => exact rfl
  case c3 => exact rfl
  case c4 => exact rfl
  intro D' g' L' h' l1 FG' F' N' B' X' T'
  k_lt l1
  try dsimp only
  try k_fold
  repeat' ((fail_if_success (with_reducible show wpAny _ _ (exec (Stmt.For _ _ _ _ _) _) _ _ _)); (first | (k_unfold; (try dsimp only)) | (k_end; wrow_close) | ((with_reducible show wpAny _ _ (exec _ _) _ _ { heap := _, gens := _, drawn := _, toks := _ + 1, os := _ }); refine genT ?_; intro __tkT) | ((with_reducible show wpAny _ _ (exec _ _) _ _ _); refine sealQ ?_; intro qQ; walk1) | walk1 | (dsimp only; walk1) | (leave1; try dsimp only)))
  refine for_led g' rfl rfl ?_
  repeat' ((fail_if_success (with_reducible show wpAny _ _ (pyIter _) _ _ _)); (first | (k_unfold; (try dsimp only)) | (k_end; wrow_close) | ((with_reducible show wpAny _ _ (exec _ _) _ _ { heap := _, gens := _, drawn := _, toks := _ + 1, os := _ }); refine genT ?_; intro __tkT) | ((with_reducible show wpAny _ _ (exec _ _) _ _ _); refine sealQ ?_; intro qQ; walk1) | walk1 | (dsimp only; walk1) | (leave1; try dsimp only)))
  have hnd1 : (((D', ({ cls := Value.type "tuple", data := Data.seq vs.toArray } : Obj)) :: news).map (·.1)).Nodup := nodup_cons_of hnd l1
  have R1 : SR w ((D', ({ cls := Value.type "tuple", data := Data.seq vs.toArray } : Obj)) :: news) σ σd d nds np sc (.ref rl) npo nfi ((rl, W.listOf #[] ep) :: (D', ({ cls := Value.type "tuple", data := Data.seq vs.toArray } : Obj)) :: rest) := (R.cons (D', ({ cls := Value.type "tuple", data := Data.seq vs.toArray } : Obj)) l1).less fun p hp => by
    rcases List.mem_cons.mp hp with rfl | hp
    · exact .tail _ (.head _)
    · rcases List.mem_cons.mp hp with rfl | hp
      · exact .head _
      · exact .tail _ (.tail _ hp)
  k_dflt refine forAt_tuple rfl (by k_asm) (by k_asm) hnd1 (.head _) (fun i m₁ news₁ => SameL [Str.ofString "node", Str.ofString "nodeinfo", Str.ofString "stat", Str.ofString "successor", Str.ofString "successor_info"] m₁ _ ∧ ∃ ws ep', StrsAre ws (finAll sc (rs.take i) (np, [])).2 ∧ SR w news₁ σ σd d nds (finAll sc (rs.take i) (np, [])).1 sc (.ref rl) npo (nfi + i) ((rl, W.listOf ws.toArray ep') :: (D', ({ cls := Value.type "tuple", data := Data.seq vs.toArray } : Obj)) :: rest)) ⟨SameL.refl _ _, [], ep, .nil, by simpa [finAll] using R1⟩ ?turn ?done
  case turn =>
    intro I i v m₁ news₁ h tk io hv hJ hD2 F2 N2 hnd2
    refine sealQ ?_; intro qT
    refine sealG fun GG2 hGG2 => ?_
    obtain ⟨hm₁, ws2, ep2, hws2, R2⟩ := hJ
    replace F2 := fr_sameL1 F2 hm₁
    simp only [canon, List.foldr] at F2
    obtain ⟨r, t, hr, rfl⟩ := strs_get hvs (by simpa using hv)
    obtain ⟨n, hn, rfl⟩ := hrs r (List.mem_of_getElem? hr)
    have ho := hout i n.name hr
    have hva := R2.S.at hn
    obtain ⟨od, hdd, hod⟩ := R2.S.n2i
    have lo := R2.S.lo
    obtain ⟨nt, npt, hinf⟩ := R2.S.info n hn
    refine hGG2 ?_
    rw [ho] at hinf
    have hidt := R2.S.idt n hn
    have hIn := neI hnd2 hinf
    have hnd3 := (List.nodup_cons.mp hnd2).2
    have hne1 : @Ne Nat n.idt n.info := ne_of_cls hnd3 hidt hinf (by simp)
    repeat' ((fail_if_success (with_reducible show wpAny _ _ (exec (Stmt.For _ _ _ _ _) _) _ _ _)); (first | (k_unfold; (try dsimp only)) | (k_end; wrow_close) | ((with_reducible show wpAny _ _ (exec _ _) _ _ { heap := _, gens := _, drawn := _, toks := _ + 1, os := _ }); refine genT ?_; intro __tkT) | ((with_reducible show wpAny _ _ (exec _ _) _ _ _); refine sealQ ?_; intro qQ; walk1) | walk1 | (dsimp only; walk1) | (leave1; try dsimp only)))
    refine for_led g' rfl rfl ?_
    repeat' ((fail_if_success (with_reducible show wpAny _ _ (pyIter _) _ _ _)); (first | (k_unfold; (try dsimp only)) | (k_end; wrow_close) | ((with_reducible show wpAny _ _ (exec _ _) _ _ { heap := _, gens := _, drawn := _, toks := _ + 1, os := _ }); refine genT ?_; intro __tkT) | ((with_reducible show wpAny _ _ (exec _ _) _ _ _); refine sealQ ?_; intro qQ; walk1) | walk1 | (dsimp only; walk1) | (leave1; try dsimp only)))
    rename News g' L' _ ((I, io) :: putA _ _ _) => N3
    rename Fr g' L' _ _ => F3
    have R3 := R2.setNp (Mine.News.sub N3 fun p hp => .tail _ hp) hnd3 hn
    have hndI := (List.nodup_cons.mp (nodupI_putA (a := n.info) (o := infoObj n nt (-2) 211) hnd2)).1
    have R3' := (R3.consI (io := io) hndI).less (rest' := (rl, W.listOf ws2.toArray ep2) :: (I, io) :: (D', ({ cls := Value.type "tuple", data := Data.seq vs.toArray } : Obj)) :: rest) fun p hp => by
      rcases List.mem_cons.mp hp with rfl | hp
      · exact .tail _ (.head _)
      · rcases List.mem_cons.mp hp with rfl | hp
        · exact .head _
        · exact .tail _ (.tail _ hp)
    refine sealG fun GG3 hGG3 => ?_
    obtain ⟨us, ep3, hus, hsl⟩ := R3'.S.sl n hn
    refine hGG3 ?_
    have hrl2 := R2.sub _ (.head _)
    have hIrl := neI hnd2 hrl2
    have hDrl : D' ≠ rl := ne_of_cls hnd3 hD2 hrl2 (by simp)
    have hrest : ∀ p ∈ (I, io) :: (D', ({ cls := Value.type "tuple", data := Data.seq vs.toArray } : Obj)) :: rest, p.1 ≠ rl := by
      intro p hp
      rcases List.mem_cons.mp hp with rfl | hp
      · exact hIrl
      · rcases List.mem_cons.mp hp with rfl | hp
        · exact hDrl
        · exact hrr p hp
    have hslrl : n.sl ≠ rl := ((R2.off _ (.head _)).2.2.2 n hn).2.2.symm
    have hrI : ∀ o, ∀ p ∈ (rl, o) :: (D', ({ cls := Value.type "tuple", data := Data.seq vs.toArray } : Obj)) :: rest, p.1 ≠ I := by
      intro o p hp
      rcases List.mem_cons.mp hp with rfl | hp
      · exact hIrl.symm
      · exact (neI hnd2 (R2.sub p (.tail _ hp))).symm
    have hlen2 : (finAll sc (rs.take i) (np, [])).2.length ≤ 800 * 900 := by
      have h1 := finAll_len hscl (rs.take i) (np, [])
      have h2 : (rs.take i).length ≤ 900 := by rw [List.length_take]; omega
      have h3 : 800 * (rs.take i).length ≤ 800 * 900 := Nat.mul_le_mul_left _ h2
      simp only [List.length_nil] at h1
      omega
    k_dflt refine forAt_list rfl F3 N3 (nodupI_putA hnd2) hsl (fun j m₂ news₂ => SameL [Str.ofString "successor", Str.ofString "successor_info"] m₂ _ ∧ ∃ ws ep', StrsAre ws (decAll ((sc n.name).take j) (fun y => if y = n.name then -2 else (finAll sc (rs.take i) (np, [])).1 y, (finAll sc (rs.take i) (np, [])).2)).2 ∧ SR w news₂ σ σd d nds (decAll ((sc n.name).take j) (fun y => if y = n.name then -2 else (finAll sc (rs.take i) (np, [])).1 y, (finAll sc (rs.take i) (np, [])).2)).1 sc (.ref rl) npo (nfi + i) ((rl, W.listOf ws.toArray ep') :: (I, io) :: (D', ({ cls := Value.type "tuple", data := Data.seq vs.toArray } : Obj)) :: rest)) ⟨SameL.refl _ _, ws2, ep2, hws2, R3'⟩ ?turn2 ?done2
    case turn2 =>
      intro I2 j v2 m₂ news₂ h2 tk2 io2 hv2 hJ2 hsl2 F4 N4 hnd4
      refine sealQ ?_; intro qT
      refine sealG fun GG4 hGG4 => ?_
      obtain ⟨hm₂, ws4, ep4, hws4, R4⟩ := hJ2
      replace F4 := fr_sameL1 F4 hm₂
      simp only [canon, List.foldr] at F4
      obtain ⟨z, tz, hz, rfl⟩ := strs_get hus (by simpa using hv2)
      obtain ⟨q, hq, rfl⟩ := hscn n.name z (List.mem_of_getElem? hz)
      have hva4 := R4.S.at hq
      obtain ⟨od4, hdd4, hod4⟩ := R4.S.n2i
      obtain ⟨nt4, npt4, hinf4⟩ := R4.S.info q hq
      have hidt4 := R4.S.idt q hq
      have hIn4 := neI hnd4 hinf4
      have hnd5 := (List.nodup_cons.mp hnd4).2
      have hne4 : @Ne Nat q.idt q.info := ne_of_cls hnd5 hidt4 hinf4 (by simp)
      have hrl4 := R4.sub _ (.head _)
      have hIrl4 := neI hnd4 hrl4
      have hne5 : @Ne Nat rl q.info := ne_of_cls hnd5 hrl4 hinf4 (by simp)
      have hi4 := R4.S.inst
      obtain ⟨f1, f2, f3, f4, g1, g2, g3, g4, i3, i4, hsd4⟩ := R4.S.dict
      refine hGG4 ?_
      have hne6 : @Ne Nat σ q.info := ne_of_cls hnd5 hi4 hinf4 (by simp)
      have hne7 : @Ne Nat σd q.info := ne_of_cls hnd5 hsd4 hinf4 (by simp)
      repeat' ((fail_if_success (with_reducible show wpAny _ _ (PySem.call (Value.builtin "list.append") _ _) _ _ _)); (first | (k_unfold; (try dsimp only)) | (k_end; wrow_close) | ((with_reducible show wpAny _ _ (exec _ _) _ _ { heap := _, gens := _, drawn := _, toks := _ + 1, os := _ }); refine genT ?_; intro __tkT) | ((with_reducible show wpAny _ _ (exec _ _) _ _ _); refine sealQ ?_; intro qQ; walk1) | walk1 | (dsimp only; walk1) | (leave1; try dsimp only)))
      · rename (_ : Int) - 1 = 0 => hc
        rename News g' L' _ ((I2, io2) :: putA _ _ _) => N5
        have R5 := R4.setNp (Mine.News.sub N5 fun p hp => .tail _ hp) hnd5 hq
        have hsz4 : ws4.toArray.size ≤ sizeLine := by
          rw [sizeLine_eq, List.size_toArray, strs_len hws4]
          have h1 := decAll_len ((sc n.name).take j) (fun y => if y = n.name then -2 else (finAll sc (rs.take i) (np, [])).1 y, (finAll sc (rs.take i) (np, [])).2)
          have h2 : ((sc n.name).take j).length ≤ 800 := by rw [List.length_take]; have := hscl n.name; omega
          dsimp only at h1
          omega
        k_dflt (refine append_K (by k_asm) (by k_asm) (by k_upd) ?_ hsz4)
        intro h6 F6 N6
        rw [List.push_toArray] at N6
        have R6 := R5.putRest (o' := W.listOf (ws4 ++ [Value.str q.name tz]).toArray (ep4 + 1)) hrest
        repeat' ((first | (k_unfold; (try dsimp only)) | (k_end; wrow_close) | ((with_reducible show wpAny _ _ (exec _ _) _ _ { heap := _, gens := _, drawn := _, toks := _ + 1, os := _ }); refine genT ?_; intro __tkT) | ((with_reducible show wpAny _ _ (exec _ _) _ _ _); refine sealQ ?_; intro qQ; walk1) | walk1 | (dsimp only; walk1) | (leave1; try dsimp only)))
        refine TurnEnd.go (by k_asm) N6 (nodupI_putA (nodupI_putA hnd4)) ?_ ⟨?_, ws4 ++ [Value.str q.name tz], ep4 + 1, ?_, ?_⟩
        · intro p hp
          rw [List.mem_singleton.mp hp]
          exact mem_putA_ne (mem_putA_ne hsl2 (ne_of_cls hnd5 hsl2 hinf4 (by simp))) hslrl
        · repeat (first | exact SameL.refl _ _ | refine SameL.set (by repeat (first | exact List.Mem.head _ | apply List.Mem.tail)) ?_)
        · rw [decAll_take hz]; unfold dec1; dsimp only; rw [if_pos hc]; exact strs_snoc hws4 _ _
        · rw [decAll_take hz]; exact R6
      · rename (_ : Int) - 1 ≠ 0 => hc
        rename News g' L' _ ((I2, io2) :: putA _ _ _) => N5
        have R5 := R4.setNp (Mine.News.sub N5 fun p hp => .tail _ hp) hnd5 hq
        refine TurnEnd.go (by k_asm) N5 (nodupI_putA hnd4) ?_ ⟨?_, ws4, ep4, ?_, ?_⟩
        · intro p hp
          rw [List.mem_singleton.mp hp]
          exact mem_putA_ne hsl2 (ne_of_cls hnd5 hsl2 hinf4 (by simp))
        · repeat (first | exact SameL.refl _ _ | refine SameL.set (by repeat (first | exact List.Mem.head _ | apply List.Mem.tail)) ?_)
        · rw [decAll_take hz]; unfold dec1; dsimp only; rw [if_neg hc]; exact hws4
        · rw [decAll_take hz]; exact R5
    case done2 =>
      intro h4 tk4 m4 news4 F4 N4 hnd4 hsl4 hJ4
      refine sealG fun GG5 hGG5 => ?_
      obtain ⟨hm4, ws4, ep4, hws4, R4⟩ := hJ4
      have hF4 := fr_sameL F4 hm4
      simp only [canon, List.foldr] at hF4
      clear F4
      have htk : (sc n.name).take us.toArray.size = sc n.name := by rw [List.size_toArray, strs_len hus, List.take_length]
      rw [htk] at hws4 R4
      have hi4 := R4.S.inst
      obtain ⟨f1, f2, f3, f4, g1, g2, g3, g4, i3, i4, hsd4⟩ := R4.S.dict
      refine hGG5 ?_
      repeat' ((first | (k_unfold; (try dsimp only)) | (k_end; wrow_close) | ((with_reducible show wpAny _ _ (exec _ _) _ _ { heap := _, gens := _, drawn := _, toks := _ + 1, os := _ }); refine genT ?_; intro __tkT) | ((with_reducible show wpAny _ _ (exec _ _) _ _ _); refine sealQ ?_; intro qQ; walk1) | walk1 | (dsimp only; walk1) | (leave1; try dsimp only)))
      rename News g' L' _ (putA σd _ _) => N5
      have R5 := R4.setDict N5 hnd4
      have R6 := (R5.less (rest' := (I, io) :: (rl, W.listOf ws4.toArray ep4) :: (D', ({ cls := Value.type "tuple", data := Data.seq vs.toArray } : Obj)) :: rest) fun p hp => by
        rcases List.mem_cons.mp hp with rfl | hp
        · exact .tail _ (.head _)
        · rcases List.mem_cons.mp hp with rfl | hp
          · exact .head _
          · exact .tail _ (.tail _ hp)).drop (hrI _)
      refine TurnEnd.go (by k_asm) (Mine.News.sub N5 (dropA_sub (R5.sub _ (.tail _ (.head _))))) (nodup_dropA (nodup_putA hnd4)) ?_ ⟨?_, ws4, ep4, ?_, ?_⟩
      · intro p hp
        rw [List.mem_singleton.mp hp]
        exact R6.sub _ (.tail _ (.head _))
      · repeat (first | exact SameL.refl _ _ | refine SameL.set (by repeat (first | exact List.Mem.head _ | apply List.Mem.tail)) ?_)
      · rw [finAll_take hr]; exact hws4
      · rw [finAll_take hr, show nfi + ((i + 1 : Nat) : Int) = nfi + (i : Int) + 1 by omega]; exact R6
  case done =>
    intro h4 tk4 m4 news4 F4 N4 hnd4 hD4 hJ
    refine sealG fun GG6 hGG6 => ?_
    obtain ⟨hm4, ws4, ep4, hws4, R4⟩ := hJ
    refine hGG6 ?_
    have htk : rs.take vs.toArray.size = rs := by rw [List.size_toArray, hvl, List.take_length]
    rw [htk] at hws4 R4
    rw [List.size_toArray, hvl] at R4
    repeat' ((first | (k_unfold; (try dsimp only)) | (k_end; wrow_close) | ((with_reducible show wpAny _ _ (exec _ _) _ _ { heap := _, gens := _, drawn := _, toks := _ + 1, os := _ }); refine genT ?_; intro __tkT) | ((with_reducible show wpAny _ _ (exec _ _) _ _ _); refine sealQ ?_; intro qQ; walk1) | walk1 | (dsimp only; walk1) | (leave1; try dsimp only)))
    exact ret _ _ _ _ _ (by k_asm) (by k_asm) hnd4 hws4 (R4.less fun p hp => by
      rcases List.mem_cons.mp hp with rfl | hp
      · exact .head _
      · exact .tail _ (.tail _ hp))
end

end
section
theorem offG5 : True := by
  w_top off
  trivial
open PySem PySem.W PyProof.Rows
set_option maxRecDepth 100000
set_option maxHeartbeats 8000000
section
variable {w : World} {s₀ : Shared} {mg mb : Str → Option Value} {dp un : Nat} {gd : Option (List Code)} {cn : Str} {cs : Scope} {a : Addr} {ccd : Value} {cl : List (Str × Addr)} {outer : List Env} {A₀ : Around} {base h₀ : Heap} {L : Addr} {m : Str → Option Value} {news : List (Addr × Obj)} {s : Shared} {Q E : Value → Shared → Prop}
set_option pp.maxSteps 20000 in
theorem isActive (B : Below A₀ base outer h₀) (F : Fr h₀ L s.heap m) (X : (hd.heap_1 w.params).In h₀) (N : News h₀ L s.heap news) (T : Top hd.view_1 (looseW hd.view_1 [Str.ofString "_NodeInfo"]) (ExcName.means s₀.heap) mg mb h₀) (hk : cs.kind = .function) (hnd : (news.map (·.1)).Nodup)
    {σ σd d rl : Addr} {nds : List NA} {np : Str → Int} {sc : Str → List Str} {npo : Int} {ep : Nat} {rest : List (Addr × Obj)}
    (R : SR w news σ σd d nds np sc (.ref rl) npo npo ((rl, W.listOf #[] ep) :: rest)) (hd : dp + 60 < recursionLimit) (hu : un + 100 < cLine)
    (ret : ∀ h' tk', Fr h₀ L h' m → News h₀ L h' news → Q (.bool false) { s with heap := h', toks := tk' })
    : wpAny (model (PySem.Challenge.rw_mr0291_01.row.prog) w) (ktrTop dp un gd cn cs L a ccd cl outer) (call (.ref 113) [.ref σ]) Q E s := by
  revert X; k_fill; intro X
  have hi := R.S.inst
  refine sealG fun GG1 hGG1 => ?_
  obtain ⟨e1, e2, e3, e4, k1, k2, k3, k4, t3, t4, hsd⟩ := R.S.dict
  refine hGG1 ?_
  have hrl := R.sub _ (.head _)
  refine wpAny_call ?_
  k_dflt (refine' code_def ?k1 ?k2 ?k3 ?k4 ?k5 ?kA ?kF ?kK ?k6 ?k7 ?k8 ?k9 ?kB ?_ ?c2 ?c3 ?c4 ?c5; (case kA => exact rfl); (case kF => exact rfl); (case kK => assumption); (case k1 => k_asm); (case k2 => k_asm); (case k3 => k_asm); (case k4 => k_asm); (case k5 => k_asm); (case k6 => k_is); (case k7 => k_is); (case k8 => ktr_room); (case k9 => exact BindsTo.of_eq rfl); (case c5 => decide); (case kB => exact locs rfl); (case c2 => exact rfl); (case c3 => exact rfl); (case c4 => exact rfl); k_whole; intro g' L' h' FG' F' N' B' X' T'; (try dsimp only); (try k_fold))
  repeat' ((fail_if_success (with_reducible show wpAny _ _ (PySem.call (Value.type "bool") _ _) _ _ _)); (first | (k_unfold; (try dsimp only)) | (k_end; wrow_close) | ((with_reducible show wpAny _ _ (exec _ _) _ _ { heap := _, gens := _, drawn := _, toks := _ + 1, os := _ }); refine genT ?_; intro __tkT) | ((with_reducible show wpAny _ _ (exec _ _) _ _ _); refine sealQ ?_; intro qQ; walk1) | walk1 | (dsimp only; walk1) | (leave1; try dsimp only)))
  · exact absurd (by assumption : npo < npo) (Int.lt_irrefl _)
  · k_dflt refine call_bool_list (News.isList (by k_asm) hrl) (by decide) ?_
    repeat' ((first | (k_unfold; (try dsimp only)) | (k_end; wrow_close) | ((with_reducible show wpAny _ _ (exec _ _) _ _ { heap := _, gens := _, drawn := _, toks := _ + 1, os := _ }); refine genT ?_; intro __tkT) | ((with_reducible show wpAny _ _ (exec _ _) _ _ _); refine sealQ ?_; intro qQ; walk1) | walk1 | (dsimp only; walk1) | (leave1; try dsimp only)))
    exact ret _ _ (by k_asm) (by k_asm)
end

end
section
open PySem
structure Fm where
  name : Str
  i : Nat
inductive Topo (sc : Str → List Str) : List Str → Prop
  | nil : Topo sc []
  | snoc {fin : List Str} {x : Str} : Topo sc fin → x ∉ fin → (∀ y ∈ sc x, y ∈ fin) → Topo sc (fin ++ [x])
noncomputable def Under (sc : Str → List Str) (fin : List Str) (c : Str) : List Fm → Prop
  | [] => True
  | f :: r => 1 ≤ f.i ∧ (sc f.name)[f.i - 1]? = some c ∧ (∀ y ∈ (sc f.name).take (f.i - 1), y ∈ fin) ∧ Under sc fin f.name r
noncomputable def Calm (sc : Str → List Str) (fin : List Str) : List Fm → Prop
  | [] => True
  | f :: r => f.i ≤ (sc f.name).length ∧ (∀ y ∈ (sc f.name).take f.i, y ∈ fin) ∧ Under sc fin f.name r
structure DInv (sc : Str → List Str) (names fin : List Str) (stk : List Fm) : Prop where
  topo : Topo sc fin
  nodup : (stk.map (·.name) ++ fin).Nodup
  sub : ∀ x ∈ stk.map (·.name) ++ fin, x ∈ names
section
variable {sc : Str → List Str} {names fin : List Str} {stk r : List Fm} {f : Fm} {c x y : Str}
theorem Under.mono {fin' : List Str} (hs : ∀ y ∈ fin, y ∈ fin') : ∀ {stk : List Fm} {c : Str}, Under sc fin c stk → Under sc fin' c stk
  | [], _, _ => trivial
  | _ :: _, _, ⟨a, b, d, e⟩ => ⟨a, b, fun y hy => hs y (d y hy), Under.mono hs e⟩
theorem take_last {α : Type} {l : List α} {i : Nat} {c : α} (h1 : 1 ≤ i) (h : l[i - 1]? = some c) : l.take i = l.take (i - 1) ++ [c] ∧ i ≤ l.length := by
  obtain ⟨j, rfl⟩ : ∃ j, i = j + 1 := ⟨i - 1, by omega⟩
  simp only [Nat.add_sub_cancel] at h ⊢
  refine ⟨by rw [List.take_add_one, h]; rfl, ?_⟩
  have := (List.getElem?_eq_some_iff.mp h).1
  omega
theorem calm_of_under (h : Under sc fin c stk) (hc : c ∈ fin) : Calm sc fin stk := by
  cases stk with
  | nil => trivial
  | cons f r =>
    obtain ⟨a, b, d, e⟩ := h
    obtain ⟨e1, e2⟩ := take_last a b
    refine ⟨e2, fun y hy => ?_, e⟩
    rw [e1] at hy
    rcases List.mem_append.mp hy with hy | hy
    · exact d y hy
    · rw [List.mem_singleton.mp hy]; exact hc
theorem calm_push (h : Under sc fin x stk) : Calm sc fin (⟨x, 0⟩ :: stk) := ⟨Nat.zero_le _, fun y hy => by simp at hy, h⟩
theorem under_next (h : Calm sc fin (f :: r)) (hy : (sc f.name)[f.i]? = some y) : Under sc fin y (⟨f.name, f.i + 1⟩ :: r) := by
  obtain ⟨_, b, d⟩ := h
  exact ⟨Nat.succ_le_succ (Nat.zero_le _), hy, b, d⟩
theorem calm_pop (h : Calm sc fin (f :: r)) (hn : (sc f.name)[f.i]? = none) : Calm sc (fin ++ [f.name]) r ∧ ∀ y ∈ sc f.name, y ∈ fin := by
  obtain ⟨a, b, d⟩ := h
  have hl : f.i = (sc f.name).length := by have := List.getElem?_eq_none_iff.mp hn; omega
  refine ⟨calm_of_under (c := f.name) (Under.mono (fun y hy => List.mem_append_left _ hy) d) (List.mem_append_right _ (.head _)), fun y hy => b y ?_⟩
  rw [hl, List.take_length]; exact hy
theorem DInv.push (D : DInv sc names fin stk) (hx : x ∉ stk.map (·.name) ++ fin) (hn : x ∈ names) : DInv sc names fin (⟨x, 0⟩ :: stk) := by
  refine ⟨D.topo, ?_, ?_⟩
  · rw [List.map_cons, List.cons_append, List.nodup_cons]; exact ⟨hx, D.nodup⟩
  · intro y hy
    rw [List.map_cons, List.cons_append] at hy
    rcases List.mem_cons.mp hy with rfl | hy
    · exact hn
    · exact D.sub y hy
theorem DInv.step {i : Nat} (D : DInv sc names fin (f :: r)) : DInv sc names fin (⟨f.name, i⟩ :: r) := ⟨D.topo, D.nodup, D.sub⟩
theorem DInv.pop (D : DInv sc names fin (f :: r)) (hs : ∀ y ∈ sc f.name, y ∈ fin) : DInv sc names (fin ++ [f.name]) r := by
  have hn := D.nodup
  rw [List.map_cons, List.cons_append, List.nodup_cons] at hn
  have hp : (r.map (·.name) ++ (fin ++ [f.name])).Perm (f.name :: (r.map (·.name) ++ fin)) := by
    rw [← List.append_assoc]; exact (List.perm_append_comm (l₂ := [f.name])).trans (by rfl)
  refine ⟨.snoc D.topo (fun h => hn.1 (List.mem_append_right _ h)) hs, hp.symm.nodup (by rw [List.nodup_cons]; exact hn), fun y hy => ?_⟩
  exact D.sub y (hp.subset hy)
end

end
section
open PySem
noncomputable def Path (sc : Str → List Str) : List Str → Prop
  | a :: b :: r => b ∈ sc a ∧ Path sc (b :: r)
  | _ => True
section
variable {sc : Str → List Str} {names fin : List Str} {stk r : List Fm} {f : Fm} {c x y : Str}
theorem path_snoc {a b : Str} : ∀ {l : List Str}, Path sc (l ++ [a]) → b ∈ sc a → Path sc (l ++ [a] ++ [b])
  | [], _, h => ⟨h, trivial⟩
  | [_], ⟨h1, _⟩, h => ⟨h1, h, trivial⟩
  | _ :: z :: r, ⟨h1, h2⟩, h => ⟨h1, path_snoc (l := z :: r) h2 h⟩
theorem path_tail {a : Str} : ∀ {l : List Str}, Path sc (a :: l) → Path sc l
  | [], _ => trivial
  | _ :: _, h => h.2
theorem path_drop : ∀ (k : Nat) {l : List Str}, Path sc l → Path sc (l.drop k)
  | 0, _, h => h
  | _ + 1, [], h => h
  | k + 1, _ :: _, h => path_drop k (path_tail h)
theorem path_get : ∀ {l : List Str} {k : Nat} {a b : Str}, Path sc l → l[k]? = some a → l[k + 1]? = some b → b ∈ sc a
  | [], _, _, _, _, h, _ => by simp at h
  | [_], _, _, _, _, _, h => by simp at h
  | x :: y :: r, 0, a, b, h, h1, h2 => by
    simp at h1 h2
    subst h1 h2
    exact h.1
  | x :: y :: r, k + 1, a, b, h, h1, h2 => path_get (l := y :: r) h.2 (by simpa using h1) (by simpa using h2)
theorem under_path : ∀ {stk : List Fm} {c : Str}, Under sc fin c stk → Path sc ((stk.map (·.name)).reverse ++ [c])
  | [], _, _ => trivial
  | f :: r, c, ⟨_, b, _, e⟩ => by
    have ih := under_path e
    rw [List.map_cons, List.reverse_cons]
    exact path_snoc ih (List.mem_of_getElem? b)
theorem under_le : ∀ {stk : List Fm} {c : Str}, Under sc fin c stk → ∀ f ∈ stk, f.i ≤ (sc f.name).length
  | [], _, _, _, h => nomatch h
  | g :: r, _, ⟨a, b, _, e⟩, f, h => by
    rcases List.mem_cons.mp h with rfl | h
    · exact (take_last a b).2
    · exact under_le e f h
theorem calm_le (h : Calm sc fin stk) : ∀ f ∈ stk, f.i ≤ (sc f.name).length := by
  cases stk with
  | nil => intro f h; cases h
  | cons g r =>
    intro f hf
    rcases List.mem_cons.mp hf with rfl | hf
    · exact h.1
    · exact under_le h.2.2 f hf
noncomputable def taken (sc : Str → List Str) (fin : List Str) (stk : List Fm) : Nat := (fin.map fun x => (sc x).length).sum + (stk.map (·.i)).sum
noncomputable def total (sc : Str → List Str) (names : List Str) : Nat := (names.map fun x => (sc x).length).sum
theorem sum_le_of_nodup (g : Str → Nat) : ∀ (l names : List Str), l.Nodup → (∀ x ∈ l, x ∈ names) → (l.map g).sum ≤ (names.map g).sum
  | [], _, _, _ => Nat.zero_le _
  | a :: l, names, hn, hs => by
    rw [List.nodup_cons] at hn
    have ha := hs a (.head _)
    have h1 := sum_le_of_nodup g l (names.erase a) hn.2 fun x hx => by
      have hne : x ≠ a := fun e => hn.1 (e ▸ hx)
      exact (List.mem_erase_of_ne hne).mpr (hs x (.tail _ hx))
    have h2 := ((List.perm_cons_erase ha).map g).sum_nat
    simp only [List.map_cons, List.sum_cons] at h2 ⊢
    omega
theorem taken_le (D : DInv sc names fin stk) (h : ∀ f ∈ stk, f.i ≤ (sc f.name).length) : taken sc fin stk ≤ total sc names := by
  have h1 := sum_le_of_nodup (fun x => (sc x).length) _ names D.nodup D.sub
  have h2 : (stk.map (·.i)).sum ≤ ((stk.map (·.name)).map fun x => (sc x).length).sum := by
    clear D h1
    induction stk with
    | nil => exact Nat.le_refl _
    | cons g r ih =>
      have := ih fun f hf => h f (.tail _ hf)
      have := h g (.head _)
      simp only [List.map_cons, List.sum_cons]
      omega
  rw [List.map_append, List.sum_append] at h1
  unfold taken total
  omega
theorem taken_push : taken sc fin (⟨x, 0⟩ :: stk) = taken sc fin stk := by simp [taken]
theorem taken_next : taken sc fin (⟨f.name, f.i + 1⟩ :: r) = taken sc fin (f :: r) + 1 := by simp only [taken, List.map_cons, List.sum_cons]; omega
theorem taken_pop (h : Calm sc fin (f :: r)) (hn : (sc f.name)[f.i]? = none) : taken sc (fin ++ [f.name]) r = taken sc fin (f :: r) := by
  have hl : f.i = (sc f.name).length := by have := List.getElem?_eq_none_iff.mp hn; have := h.1; omega
  simp only [taken, List.map_append, List.sum_append, List.map_cons, List.sum_cons, List.map_nil, List.sum_nil, hl]
  omega
theorem ring_ok {k : Nat} (D : DInv sc names fin stk) (hU : Under sc fin c stk) (hk : ((stk.map (·.name)).reverse)[k]? = some c) :
    Path sc (((stk.map (·.name)).reverse).drop k ++ [c]) ∧ 2 ≤ (((stk.map (·.name)).reverse).drop k ++ [c]).length ∧ (((stk.map (·.name)).reverse).drop k ++ [c])[0]? = some c ∧ ((((stk.map (·.name)).reverse).drop k ++ [c]).tail).Nodup ∧ ∀ x ∈ ((stk.map (·.name)).reverse).drop k ++ [c], x ∈ names := by
  have hlt : k < ((stk.map (·.name)).reverse).length := (List.getElem?_eq_some_iff.mp hk).1
  have hst : ((stk.map (·.name)).reverse).Nodup := by
    have := (List.nodup_append.mp D.nodup).1
    exact (List.reverse_perm _).symm.nodup this
  generalize hS : (stk.map (·.name)).reverse = S at *
  have hsplit : S.drop k = c :: S.drop (k + 1) := by
    rw [List.drop_eq_getElem_cons hlt]
    congr 1
    have := (List.getElem?_eq_some_iff.mp hk).2
    exact this
  have hP := under_path hU
  rw [hS] at hP
  refine ⟨?_, ?_, ?_, ?_, ?_⟩
  · have := path_drop k hP
    rw [List.drop_append_of_le_length (Nat.le_of_lt hlt)] at this
    exact this
  · rw [hsplit]; simp
  · rw [hsplit]; rfl
  · rw [hsplit, List.cons_append, List.tail_cons]
    have hd : (S.drop k).Nodup := hst.sublist (List.drop_sublist _ _)
    rw [hsplit, List.nodup_cons] at hd
    rw [List.nodup_append]
    refine ⟨hd.2, by simp, fun a ha b hb e => ?_⟩
    rw [List.mem_singleton.mp hb] at e
    exact hd.1 (e ▸ ha)
  · intro x hx
    have hc : c ∈ S := List.mem_of_getElem? hk
    have hxS : x ∈ S := by
      rcases List.mem_append.mp hx with hx | hx
      · exact List.mem_of_mem_drop hx
      · rw [List.mem_singleton.mp hx]; exact hc
    rw [← hS] at hxS
    exact D.sub x (List.mem_append_left _ (List.mem_reverse.mp hxS))
end

end
section
open PySem
noncomputable abbrev Needs := List (Str × Str)
noncomputable def scOf (needs : Needs) (y : Str) : List Str := (needs.filter fun p => p.2 = y).map (·.1)
theorem mem_scOf {needs : Needs} {x y : Str} : x ∈ scOf needs y ↔ (x, y) ∈ needs := by
  simp only [scOf, List.mem_map, List.mem_filter, decide_eq_true_eq]
  constructor
  · rintro ⟨⟨a, b⟩, ⟨h, rfl⟩, rfl⟩; exact h
  · intro h; exact ⟨(x, y), ⟨h, rfl⟩, rfl⟩
noncomputable def later (needs : Needs) (names left : List Str) : List Str := names.filter fun x => (needs.filter fun p => p.1 = x ∧ p.2 ∈ left) ≠ []
noncomputable def gone (needs : Needs) (names left : List Str) : List Str := left.filter fun x => x ∉ later needs names left
noncomputable def roundsFrom (needs : Needs) (names : List Str) : Nat → List Str → List (List Str) × List Str
  | 0, left => ([], left)
  | n + 1, left => if gone needs names left = [] then ([], left) else
      ((gone needs names left) :: (roundsFrom needs names n (later needs names left)).1, (roundsFrom needs names n (later needs names left)).2)
section
variable {needs : Needs} {names left fin : List Str} {x y : Str}
theorem mem_later : x ∈ later needs names left ↔ x ∈ names ∧ ∃ y, (x, y) ∈ needs ∧ y ∈ left := by
  unfold later
  simp only [List.mem_filter, ne_eq, decide_eq_true_eq]
  constructor
  · rintro ⟨h, h2⟩
    refine ⟨h, ?_⟩
    cases hf : needs.filter fun p => p.1 = x ∧ p.2 ∈ left with
    | nil => exact absurd hf h2
    | cons p r =>
      have hp : p ∈ needs.filter fun p => p.1 = x ∧ p.2 ∈ left := by rw [hf]; exact .head _
      simp only [List.mem_filter, decide_eq_true_eq] at hp
      exact ⟨p.2, by rw [← hp.2.1]; exact hp.1, hp.2.2⟩
  · rintro ⟨h, y, h1, h2⟩
    refine ⟨h, fun e => ?_⟩
    have : (x, y) ∈ needs.filter fun p => p.1 = x ∧ p.2 ∈ left := List.mem_filter.mpr ⟨h1, decide_eq_true ⟨rfl, h2⟩⟩
    rw [e] at this
    cases this
theorem mem_gone : x ∈ gone needs names left ↔ x ∈ left ∧ x ∉ later needs names left := by
  unfold gone; simp only [List.mem_filter, decide_eq_true_eq]
theorem later_mono {left' : List Str} (h : ∀ x ∈ left, x ∈ left') : ∀ x ∈ later needs names left, x ∈ later needs names left' := fun x hx => by
  obtain ⟨a, y, b, c⟩ := mem_later.mp hx
  exact mem_later.mpr ⟨a, y, b, h y c⟩
theorem ring_stays {R : Str → Prop} (hR : ∀ x, R x → x ∈ names ∧ ∃ y, (x, y) ∈ needs ∧ R y) : ∀ (n : Nat) (left : List Str), (∀ x, R x → x ∈ left) → ∀ x, R x → x ∈ (roundsFrom needs names n left).2
  | 0, _, h => h
  | n + 1, left, h => by
    unfold roundsFrom
    split
    · exact h
    · refine ring_stays hR n _ fun x hx => ?_
      obtain ⟨a, y, b, c⟩ := hR x hx
      exact mem_later.mpr ⟨a, y, b, h y c⟩
theorem topo_last (ht : Topo (scOf needs) fin) : ∀ left : List Str, left ≠ [] → (∀ x ∈ left, x ∈ fin) → ∃ x ∈ left, ∀ y ∈ left, (x, y) ∉ needs := by
  induction ht with
  | nil =>
    intro left hl hs
    cases left with
    | nil => exact absurd rfl hl
    | cons a r => cases hs a (.head _)
  | @snoc fin z ht hz hsub ih =>
    intro left hl hs
    by_cases hm : z ∈ left
    · refine ⟨z, hm, fun y hy hn => ?_⟩
      have hzy : z ∈ scOf needs y := mem_scOf.mpr hn
      rcases List.mem_append.mp (hs y hy) with h | h
      · have : ∀ {f : List Str}, Topo (scOf needs) f → ∀ y ∈ f, ∀ x ∈ scOf needs y, x ∈ f := by
          intro f hf
          induction hf with
          | nil => intro y hy; cases hy
          | snoc _ _ hs' ih' =>
            intro y hy x hx
            rcases List.mem_append.mp hy with hy | hy
            · exact List.mem_append_left _ (ih' y hy x hx)
            · rw [List.mem_singleton.mp hy] at hx; exact List.mem_append_left _ (hs' x hx)
        exact hz (this ht y h z hzy)
      · rw [List.mem_singleton.mp h] at hzy; exact hz (hsub z hzy)
    · exact ih left hl fun x hx => by
        rcases List.mem_append.mp (hs x hx) with h | h
        · exact h
        · exact absurd ((List.mem_singleton.mp h) ▸ hx) hm
theorem later_sub (hl : ∀ x ∈ later needs names left, x ∈ left) : ∀ x ∈ later needs names (later needs names left), x ∈ later needs names left := later_mono hl
theorem nothing_left (ht : Topo (scOf needs) fin) (hf : ∀ x ∈ names, x ∈ fin) (hnd : names.Nodup) : ∀ (n : Nat) (left : List Str), left.length ≤ n → left.Nodup → (∀ x ∈ left, x ∈ names) → (∀ x ∈ later needs names left, x ∈ left) → (roundsFrom needs names n left).2 = []
  | 0, left, h, _, _, _ => List.length_eq_zero_iff.mp (Nat.le_zero.mp h)
  | n + 1, left, h, hn, hs, hl => by
    unfold roundsFrom
    split
    · rename_i hg
      by_cases he : left = []
      · exact he
      · exfalso
        obtain ⟨x, hx, hno⟩ := topo_last ht left he fun x hx => hf x (hs x hx)
        have : x ∈ gone needs names left := mem_gone.mpr ⟨hx, fun hlt => by obtain ⟨_, y, b, c⟩ := mem_later.mp hlt; exact hno y c b⟩
        rw [hg] at this
        cases this
    · rename_i hg
      show (roundsFrom needs names n (later needs names left)).2 = []
      have hnl : (later needs names left).Nodup := hnd.sublist List.filter_sublist
      refine nothing_left ht hf hnd n _ ?_ hnl (fun x hx => (mem_later.mp hx).1) (later_sub hl)
      cases hgl : gone needs names left with
      | nil => exact absurd hgl hg
      | cons z r =>
        have hz : z ∈ gone needs names left := by rw [hgl]; exact .head _
        obtain ⟨h1, h2⟩ := mem_gone.mp hz
        have hsub : (z :: later needs names left).Nodup := by rw [List.nodup_cons]; exact ⟨h2, hnl⟩
        have := sum_le_of_nodup (fun _ => 1) (z :: later needs names left) left hsub (fun x hx => by
          rcases List.mem_cons.mp hx with rfl | hx
          · exact h1
          · exact hl x hx)
        simp only [List.map_const', List.sum_replicate_nat, List.length_cons, Nat.mul_one] at this
        omega
end

end
section
open PySem
theorem decAll_cons (a : Str) (l : List Str) (st : (Str → Int) × List Str) : decAll (a :: l) st = decAll l (dec1 st a) := rfl
theorem decAll_np (y : Str) : ∀ (l : List Str) (st : (Str → Int) × List Str), (decAll l st).1 y = st.1 y - (l.count y : Nat)
  | [], st => by simp [decAll]
  | a :: l, st => by
    rw [decAll_cons, decAll_np y l, List.count_cons]
    show (if y = a then st.1 a - 1 else st.1 y) - _ = _
    by_cases h : y = a
    · subst h; simp; omega
    · have h' : (a == y) = false := by simpa using fun e => h e.symm
      simp [h, h']
theorem decAll_mem (x : Str) : ∀ (l : List Str) (st : (Str → Int) × List Str), x ∈ (decAll l st).2 ↔ x ∈ st.2 ∨ (1 ≤ st.1 x ∧ st.1 x ≤ (l.count x : Nat))
  | [], st => by
    show x ∈ st.2 ↔ _
    simp only [List.count_nil]
    constructor
    · exact .inl
    · rintro (h | ⟨h1, h2⟩)
      · exact h
      · exfalso; simp at h2; omega
  | a :: l, st => by
    rw [decAll_cons, decAll_mem x l, List.count_cons]
    by_cases h : x = a
    · subst h
      have e1 : (dec1 st x).1 x = st.1 x - 1 := by show (if x = x then st.1 x - 1 else st.1 x) = _; simp
      have e2 : x ∈ (dec1 st x).2 ↔ x ∈ st.2 ∨ st.1 x - 1 = 0 := by
        show x ∈ (if st.1 x - 1 = 0 then st.2 ++ [x] else st.2) ↔ _
        split <;> simp_all
      rw [e1, e2]
      simp
      constructor
      · rintro ((h | h) | h)
        · exact .inl h
        · exact .inr (by omega)
        · exact .inr (by omega)
      · rintro (h | h)
        · exact .inl (.inl h)
        · by_cases q : st.1 x - 1 = 0
          · exact .inl (.inr q)
          · exact .inr (by omega)
    · have h' : (a == x) = false := by simpa using fun e => h e.symm
      have e1 : (dec1 st a).1 x = st.1 x := by show (if x = a then st.1 a - 1 else st.1 x) = _; simp [h]
      have e2 : x ∈ (dec1 st a).2 ↔ x ∈ st.2 := by
        show x ∈ (if st.1 a - 1 = 0 then st.2 ++ [a] else st.2) ↔ _
        split <;> simp [h]
      rw [e1, e2]
      simp [h']
theorem decAll_nodup : ∀ (l : List Str) (st : (Str → Int) × List Str), st.2.Nodup → (∀ x ∈ st.2, st.1 x ≤ 0) → (decAll l st).2.Nodup ∧ ∀ x ∈ (decAll l st).2, (decAll l st).1 x ≤ 0
  | [], _, h1, h2 => ⟨h1, h2⟩
  | a :: l, st, h1, h2 => by
    rw [decAll_cons]
    refine decAll_nodup l _ ?_ ?_
    · show (if st.1 a - 1 = 0 then st.2 ++ [a] else st.2).Nodup
      split
      · rename_i q
        rw [List.nodup_append]
        refine ⟨h1, by simp, fun x hx b hb e => ?_⟩
        have := h2 x hx
        rw [e, List.mem_singleton.mp hb] at this
        omega
      · exact h1
    · intro x hx
      show (if x = a then st.1 a - 1 else st.1 x) ≤ 0
      have hx' : x ∈ st.2 ∨ (x = a ∧ st.1 a - 1 = 0) := by
        have : x ∈ (if st.1 a - 1 = 0 then st.2 ++ [a] else st.2) := hx
        split at this
        · rename_i q
          rcases List.mem_append.mp this with h | h
          · exact .inl h
          · exact .inr ⟨List.mem_singleton.mp h, q⟩
        · exact .inl this
      rcases hx' with h | ⟨h, q⟩
      · have := h2 x h
        split
        · rename_i e; rw [e] at this; omega
        · exact this
      · rw [if_pos h]; omega
theorem finAll_cons (sc : Str → List Str) (r : Str) (rs : List Str) (st : (Str → Int) × List Str) : finAll sc (r :: rs) st = finAll sc rs (fin1 sc st r) := rfl
noncomputable def outs (sc : Str → List Str) (rs : List Str) : List Str := rs.flatMap sc
theorem finAll_np {sc : Str → List Str} (y : Str) : ∀ (rs : List Str) (st : (Str → Int) × List Str), (∀ z ∈ outs sc rs, z ∉ rs) → (finAll sc rs st).1 y = if y ∈ rs then -2 else st.1 y - ((outs sc rs).count y : Nat)
  | [], st, _ => by simp [finAll, outs]
  | r :: rs, st, h => by
    rw [finAll_cons, finAll_np y rs _ fun z hz hm => h z (by simp only [outs, List.flatMap_cons]; exact List.mem_append_right _ hz) (.tail _ hm)]
    have e : (fin1 sc st r).1 y = (if y = r then -2 else st.1 y) - ((sc r).count y : Nat) := decAll_np y _ _
    by_cases h1 : y ∈ rs
    · rw [if_pos h1, if_pos (.tail _ h1)]
    · rw [if_neg h1, e]
      by_cases h2 : y = r
      · rw [if_pos h2, if_pos (by rw [h2]; exact .head _)]
        have c0 : (outs sc (r :: rs)).count y = 0 := List.count_eq_zero.mpr fun hm => h y hm (by rw [h2]; exact .head _)
        simp only [outs, List.flatMap_cons, List.count_append] at c0
        have c1 : (sc r).count y = 0 := by omega
        have c2 : (outs sc rs).count y = 0 := by unfold outs; omega
        rw [c1, c2]; simp
      · rw [if_neg h2, if_neg (by simp [h1, h2])]
        simp only [outs, List.flatMap_cons, List.count_append]
        omega
theorem finAll_mem {sc : Str → List Str} (x : Str) : ∀ (rs : List Str) (st : (Str → Int) × List Str), (∀ z ∈ outs sc rs, z ∉ rs) → x ∉ rs → (x ∈ (finAll sc rs st).2 ↔ x ∈ st.2 ∨ (1 ≤ st.1 x ∧ st.1 x ≤ ((outs sc rs).count x : Nat)))
  | [], st, _, _ => by
    show x ∈ st.2 ↔ _
    simp only [outs, List.flatMap_nil, List.count_nil]
    constructor
    · exact .inl
    · rintro (h | ⟨h1, h2⟩)
      · exact h
      · exfalso; simp at h2; omega
  | r :: rs, st, h, hx => by
    rw [finAll_cons, finAll_mem x rs _ (fun z hz hm => h z (by simp only [outs, List.flatMap_cons]; exact List.mem_append_right _ hz) (.tail _ hm)) fun hm => hx (.tail _ hm)]
    have hne : x ≠ r := fun e => hx (by rw [e]; exact .head _)
    have e : (fin1 sc st r).1 x = st.1 x - ((sc r).count x : Nat) := by
      have := decAll_np x (sc r) (fun y => if y = r then -2 else st.1 y, st.2)
      dsimp only at this
      rw [if_neg hne] at this
      exact this
    have m : x ∈ (fin1 sc st r).2 ↔ x ∈ st.2 ∨ (1 ≤ st.1 x ∧ st.1 x ≤ ((sc r).count x : Nat)) := by
      have := decAll_mem x (sc r) (fun y => if y = r then -2 else st.1 y, st.2)
      dsimp only at this
      rw [if_neg hne] at this
      exact this
    rw [e, m]
    simp only [outs, List.flatMap_cons, List.count_append]
    constructor
    · rintro ((h | h) | h)
      · exact .inl h
      · exact .inr (by omega)
      · exact .inr (by omega)
    · rintro (h | h)
      · exact .inl (.inl h)
      · by_cases q : st.1 x ≤ ((sc r).count x : Nat)
        · exact .inl (.inr ⟨h.1, q⟩)
        · exact .inr (by omega)
theorem finAll_nodup {sc : Str → List Str} : ∀ (rs : List Str) (st : (Str → Int) × List Str), st.2.Nodup → (∀ x ∈ st.2, st.1 x ≤ 0) → (finAll sc rs st).2.Nodup ∧ ∀ x ∈ (finAll sc rs st).2, (finAll sc rs st).1 x ≤ 0
  | [], _, h1, h2 => ⟨h1, h2⟩
  | r :: rs, st, h1, h2 => by
    rw [finAll_cons]
    have := decAll_nodup (sc r) (fun y => if y = r then -2 else st.1 y, st.2) h1 (fun x hx => by
      show (if x = r then (-2 : Int) else st.1 x) ≤ 0
      split
      · omega
      · exact h2 x hx)
    exact finAll_nodup rs _ this.1 this.2
theorem decAll_sub : ∀ (l : List Str) (st : (Str → Int) × List Str), ∀ x ∈ (decAll l st).2, x ∈ st.2 ∨ x ∈ l
  | [], _, _, h => .inl h
  | a :: l, st, x, h => by
    rw [decAll_cons] at h
    rcases decAll_sub l _ x h with h | h
    · have : x ∈ (if st.1 a - 1 = 0 then st.2 ++ [a] else st.2) := h
      split at this
      · rcases List.mem_append.mp this with h | h
        · exact .inl h
        · exact .inr (by rw [List.mem_singleton.mp h]; exact .head _)
      · exact .inl this
    · exact .inr (.tail _ h)
theorem finAll_sub {sc : Str → List Str} : ∀ (rs : List Str) (st : (Str → Int) × List Str), ∀ x ∈ (finAll sc rs st).2, x ∈ st.2 ∨ x ∈ outs sc rs
  | [], _, _, h => .inl h
  | r :: rs, st, x, h => by
    rw [finAll_cons] at h
    simp only [outs, List.flatMap_cons]
    rcases finAll_sub rs _ x h with h | h
    · rcases decAll_sub _ _ x h with h | h
      · exact .inl h
      · exact .inr (List.mem_append_left _ h)
    · exact .inr (List.mem_append_right _ h)
noncomputable def cnt (needs : Needs) (left : List Str) (x : Str) : Nat := (needs.filter fun p => p.1 = x ∧ p.2 ∈ left).length
theorem count_scOf (needs : Needs) (x y : Str) : (scOf needs y).count x = (needs.filter fun p => p.1 = x ∧ p.2 = y).length := by
  unfold scOf
  induction needs with
  | nil => rfl
  | cons p r ih =>
    simp only [List.filter_cons]
    by_cases h : p.2 = y
    · by_cases q : p.1 = x
      · simp [h, q, ih]
      · simp [h, q, ih, List.count_cons]
    · simp [h, ih]
theorem countP_add {α : Type} {A B C : α → Bool} (h : ∀ p, (if A p = true then 1 else 0) + (if B p = true then 1 else 0) = (if C p = true then 1 else 0)) : ∀ l : List α, l.countP A + l.countP B = l.countP C
  | [] => rfl
  | p :: l => by
    have := countP_add h l
    have := h p
    rw [List.countP_cons, List.countP_cons, List.countP_cons]
    omega
theorem cnt_cons (needs : Needs) (x : Str) {r : Str} {rs : List Str} (h : r ∉ rs) : (needs.filter fun p => p.1 = x ∧ p.2 = r).length + cnt needs rs x = cnt needs (r :: rs) x := by
  unfold cnt
  rw [← List.countP_eq_length_filter, ← List.countP_eq_length_filter, ← List.countP_eq_length_filter]
  refine countP_add (fun p => ?_) needs
  by_cases a : p.1 = x <;> by_cases b : p.2 = r <;> by_cases c : p.2 ∈ rs <;> simp_all
theorem count_outs (needs : Needs) (x : Str) : ∀ (rs : List Str), rs.Nodup → (outs (scOf needs) rs).count x = cnt needs rs x
  | [], _ => by
    have : cnt needs [] x = 0 := by unfold cnt; rw [List.length_eq_zero_iff, List.filter_eq_nil_iff]; intro p _; simp
    rw [this]; rfl
  | r :: rs, h => by
    rw [List.nodup_cons] at h
    have ih := count_outs needs x rs h.2
    simp only [outs, List.flatMap_cons, List.count_append]
    rw [show List.count x (rs.flatMap (scOf needs)) = cnt needs rs x from ih, count_scOf]
    exact cnt_cons needs x h.1

end
section
open PySem
structure KInv (needs : Needs) (names left : List Str) (np : Str → Int) (rd : List Str) : Prop where
  live : ∀ x ∈ left, np x = (cnt needs left x : Nat)
  ready : ∀ x, x ∈ rd ↔ x ∈ gone needs names left
  nodup : rd.Nodup
  down : ∀ x ∈ later needs names left, x ∈ left
  sub : ∀ x ∈ left, x ∈ names
section
variable {needs : Needs} {names left rd : List Str} {np : Str → Int} {x z : Str}
theorem cnt_pos : cnt needs left x = 0 ↔ ∀ y ∈ left, (x, y) ∉ needs := by
  unfold cnt
  rw [List.length_eq_zero_iff, List.filter_eq_nil_iff]
  constructor
  · intro h y hy hm
    exact h (x, y) hm (by simp [hy])
  · rintro h ⟨a, b⟩ hm hp
    simp at hp
    exact h b hp.2 (hp.1 ▸ hm)
theorem cnt_split {a b c : List Str} (h1 : ∀ y, y ∈ c ↔ y ∈ a ∨ y ∈ b) (h2 : ∀ y ∈ a, y ∉ b) (x : Str) : cnt needs a x + cnt needs b x = cnt needs c x := by
  unfold cnt
  rw [← List.countP_eq_length_filter, ← List.countP_eq_length_filter, ← List.countP_eq_length_filter]
  refine countP_add (fun p => ?_) needs
  have k1 := h1 p.2
  have k2 := h2 p.2
  by_cases a1 : p.1 = x <;> by_cases b1 : p.2 ∈ a <;> by_cases c1 : p.2 ∈ b <;> simp_all
theorem outs_off (K : KInv needs names left np rd) : ∀ z ∈ outs (scOf needs) rd, z ∉ rd := by
  intro z hz hm
  obtain ⟨y, hy, hzy⟩ := List.mem_flatMap.mp hz
  obtain ⟨h1, h2⟩ := mem_gone.mp ((K.ready z).mp hm)
  have hyl := (mem_gone.mp ((K.ready y).mp hy)).1
  exact h2 (mem_later.mpr ⟨K.sub z h1, y, mem_scOf.mp hzy, hyl⟩)
theorem left_split (K : KInv needs names left np rd) (y : Str) : y ∈ left ↔ y ∈ rd ∨ y ∈ later needs names left := by
  constructor
  · intro h
    by_cases q : y ∈ later needs names left
    · exact .inr q
    · exact .inl ((K.ready y).mpr (mem_gone.mpr ⟨h, q⟩))
  · rintro (h | h)
    · exact (mem_gone.mp ((K.ready y).mp h)).1
    · exact K.down y h
theorem rd_off (K : KInv needs names left np rd) : ∀ y ∈ rd, y ∉ later needs names left := fun y hy => (mem_gone.mp ((K.ready y).mp hy)).2
theorem KInv.next (K : KInv needs names left np rd) (hN : ∀ p ∈ needs, p.1 ∈ names) :
    KInv needs names (later needs names left) (finAll (scOf needs) rd (fun z => if z ∈ rd then -1 else np z, [])).1 (finAll (scOf needs) rd (fun z => if z ∈ rd then -1 else np z, [])).2 := by
  have ho := outs_off K
  have hc := fun x => cnt_split (needs := needs) (left_split K) (rd_off K) x
  refine ⟨fun x hx => ?_, fun x => ?_, (finAll_nodup rd _ (by simp) (by simp)).1, later_sub K.down, fun x hx => (mem_later.mp hx).1⟩
  · have hxr : x ∉ rd := fun h => rd_off K x h hx
    rw [finAll_np x rd _ ho, if_neg hxr, count_outs needs x rd K.nodup]
    dsimp only
    rw [if_neg hxr, K.live x (K.down x hx)]
    have := hc x
    omega
  · by_cases hxr : x ∈ rd
    · constructor
      · intro h
        rcases finAll_sub rd _ x h with h | h
        · simp at h
        · exact absurd hxr (ho x h)
      · intro h
        exact absurd (mem_gone.mp h).1 (rd_off K x hxr)
    · rw [finAll_mem x rd _ ho hxr, count_outs needs x rd K.nodup]
      dsimp only
      rw [if_neg hxr]
      have hcx := hc x
      constructor
      · rintro (h | ⟨h1, h2⟩)
        · simp at h
        · have hl : x ∈ later needs names left := by
            have hp : cnt needs rd x ≠ 0 := by omega
            by_cases q : ∃ y ∈ rd, (x, y) ∈ needs
            · obtain ⟨y, hy, hxy⟩ := q
              exact mem_later.mpr ⟨hN _ hxy, y, hxy, (left_split K y).mpr (.inl hy)⟩
            · exact absurd (cnt_pos.mpr fun y hy hm => q ⟨y, hy, hm⟩) hp
          rw [K.live x (K.down x hl)] at h1 h2
          have h0 : cnt needs (later needs names left) x = 0 := by omega
          refine mem_gone.mpr ⟨hl, fun hll => ?_⟩
          obtain ⟨_, y, b, c⟩ := mem_later.mp hll
          exact cnt_pos.mp h0 y c b
      · intro h
        obtain ⟨h1, h2⟩ := mem_gone.mp h
        obtain ⟨hxn, y, b, c⟩ := mem_later.mp h1
        have h0 : cnt needs (later needs names left) x = 0 := cnt_pos.mpr fun y hy hm => h2 (mem_later.mpr ⟨hxn, y, hm, hy⟩)
        have hp : cnt needs left x ≠ 0 := fun e => cnt_pos.mp e y c b
        refine .inr ?_
        rw [K.live x (K.down x h1)]
        omega
theorem KInv.out (K : KInv needs names left np rd) {i : Nat} {r : Str} (hr : rd[i]? = some r) : (finAll (scOf needs) (rd.take i) (fun z => if z ∈ rd then -1 else np z, [])).1 r = -1 := by
  have ho := outs_off K
  have hm : r ∈ rd := List.mem_of_getElem? hr
  have hsub : ∀ z ∈ outs (scOf needs) (rd.take i), z ∉ rd := fun z hz => ho z (by
    obtain ⟨y, hy, h⟩ := List.mem_flatMap.mp hz
    exact List.mem_flatMap.mpr ⟨y, List.mem_of_mem_take hy, h⟩)
  have hnt : r ∉ rd.take i := by
    intro h
    obtain ⟨hi, e2⟩ := List.getElem?_eq_some_iff.mp hr
    have hn := K.nodup
    rw [← List.take_append_drop i rd, List.nodup_append] at hn
    refine hn.2.2 r h r ?_ rfl
    rw [List.drop_eq_getElem_cons hi, e2]
    exact .head _
  rw [finAll_np r _ _ fun z hz h => hsub z hz (List.mem_of_mem_take h), if_neg hnt]
  dsimp only
  rw [if_pos hm, List.count_eq_zero.mpr fun h => hsub r h hm]
  simp
end

end
section
open PySem
theorem ring_places {needs : Needs} {ring : List Str} (hP : Path (scOf needs) ring) (hn : ring.tail.Nodup) {p : Nat} {a b : Str} (h1 : ring[p]? = some a) (h2 : ring[p + 1]? = some b) : (b, a) ∈ needs ∧ b ∉ (ring.take (p + 1)).drop 1 := by
  refine ⟨mem_scOf.mp (path_get hP h1 h2), fun hm => ?_⟩
  cases ring with
  | nil => simp at h1
  | cons x t =>
    simp only [List.tail_cons] at hn
    simp only [List.take_succ_cons, List.drop_succ_cons, List.drop_zero] at hm
    have ht : t[p]? = some b := by simpa using h2
    obtain ⟨hi, e2⟩ := List.getElem?_eq_some_iff.mp ht
    rw [← List.take_append_drop p t, List.nodup_append] at hn
    refine hn.2.2 b hm b ?_ rfl
    rw [List.drop_eq_getElem_cons hi, e2]
    exact .head _
theorem last_of_snoc {l : List Str} {c : Str} : (l ++ [c])[(l ++ [c]).length - 1]? = some c := by simp

end
section
open PySem PySem.W PyProof.Rows PyProof.Rows.TI
set_option maxRecDepth 100000
structure FA extends Fm where
  q : Addr
  it : Addr
structure Led (w : World) (nds : List NA) (led : List (Addr × Obj)) (ls li sn dn : Addr) (stk : List FA) (fin : List Str) : Prop where
  stack : ∃ vs ep, StrsAre vs (stk.map (·.name)).reverse ∧ (ls, W.listOf vs.toArray ep) ∈ led
  iters : ∃ ep, (li, W.listOf ((stk.map fun f => Value.ref f.q).reverse).toArray ep) ∈ led
  seen : ∃ (so : Obj) (S : Str → Bool) (n : Nat), so.SetObjOf (strKind prog w) S n ∧ (∀ x, S x = true ↔ x ∈ stk.map (·.name) ++ fin) ∧ n ≤ (stk.map (·.name) ++ fin).length ∧ (sn, so) ∈ led
  dict : ∃ (od : Obj) (kvs : List (Str × Value)), od.IsDictOf (strKind prog w) kvs ∧ (dn, od) ∈ led ∧ kvs.map (·.1) = (stk.map (·.name)).reverse ∧ ∀ (j : Nat) (k : Str) (v : Value), kvs[j]? = some (k, v) → ∃ t : Tok, v = .int (j : Int) t
  lo : (dn == sysModules) = false
  wrap : ∀ f ∈ stk, (f.q, nextObj f.it) ∈ led
  iter : ∀ f ∈ stk, ∃ n ∈ nds, n.name = f.name ∧ (f.it, iterObj n.sl f.i) ∈ led
  apart : (stk.map (·.it)).Nodup
  lsli : ls ≠ li

end
section
open PySem PySem.W PyProof.Rows PySem.Spec PySem.Calls PyProof.Rows.TI
set_option maxRecDepth 100000
structure SI (w : World) (nds : List NA) (kept fr0 : List (Addr × Obj)) (ls li sn dn : Addr) (led : List (Addr × Obj)) (stk : List FA) (fin : List Str) : Prop where
  L : Led w nds led ls li sn dn stk fin
  keep : ∀ p ∈ kept, p ∈ led
  frm : ∃ f1, SameUp fr0 f1 ∧ ∀ p ∈ f1, p ∈ led
  nd : (led.map (·.1)).Nodup
  own : ∀ a ∈ (kept ++ fr0).map (·.1), a ≠ ls ∧ a ≠ li ∧ a ≠ sn ∧ a ≠ dn ∧ ∀ f ∈ stk, a ≠ f.q ∧ a ≠ f.it
section
variable {w : World} {nds : List NA} {kept fr0 led led' : List (Addr × Obj)} {ls li sn dn : Addr} {stk r : List FA} {f : FA} {fin : List Str} {n : NA} {sc : Str → List Str}
theorem ne_at {a b : Addr} {o o' : Obj} {l : List (Addr × Obj)} (hn : (l.map (·.1)).Nodup) (h : (a, o) ∈ l) (h' : (b, o') ∈ l) (c c' : String) (hc : o.cls = .type c) (hc' : o'.cls = .type c') (hcc : c ≠ c') : a ≠ b :=
  ne_of_cls hn h h' (by rw [hc, hc']; intro e; exact hcc (Value.type.inj e))
theorem SI.apart5 (S : SI w nds kept fr0 ls li sn dn led stk fin) : ls ≠ sn ∧ ls ≠ dn ∧ li ≠ sn ∧ li ≠ dn ∧ sn ≠ dn ∧ ∀ g ∈ stk, g.q ≠ ls ∧ g.q ≠ li ∧ g.q ≠ sn ∧ g.q ≠ dn ∧ g.it ≠ ls ∧ g.it ≠ li ∧ g.it ≠ sn ∧ g.it ≠ dn ∧ ∀ g' ∈ stk, g.q ≠ g'.it := by
  obtain ⟨vs, ep, _, h1⟩ := S.L.stack
  obtain ⟨ep2, h2⟩ := S.L.iters
  obtain ⟨so, Sf, k, hso, _, _, h3⟩ := S.L.seen
  obtain ⟨od, kvs, hod, h4, _⟩ := S.L.dict
  have c4 := dict_cls hod
  have c3 : so.cls = .type "set" := hso.1.1
  refine ⟨ne_at S.nd h1 h3 "list" "set" rfl c3 (by decide), ne_at S.nd h1 h4 "list" "dict" rfl c4 (by decide), ne_at S.nd h2 h3 "list" "set" rfl c3 (by decide), ne_at S.nd h2 h4 "list" "dict" rfl c4 (by decide), ne_at S.nd h3 h4 "set" "dict" c3 c4 (by decide), fun g hg => ?_⟩
  have hq := S.L.wrap g hg
  obtain ⟨m, _, _, hi⟩ := S.L.iter g hg
  refine ⟨ne_at S.nd hq h1 "method-wrapper" "list" rfl rfl (by decide), ne_at S.nd hq h2 "method-wrapper" "list" rfl rfl (by decide), ne_at S.nd hq h3 "method-wrapper" "set" rfl c3 (by decide), ne_at S.nd hq h4 "method-wrapper" "dict" rfl c4 (by decide), ne_at S.nd hi h1 "list_iterator" "list" rfl rfl (by decide), ne_at S.nd hi h2 "list_iterator" "list" rfl rfl (by decide), ne_at S.nd hi h3 "list_iterator" "set" rfl c3 (by decide), ne_at S.nd hi h4 "list_iterator" "dict" rfl c4 (by decide), fun g' hg' => ?_⟩
  obtain ⟨m', _, _, hi'⟩ := S.L.iter g' hg'
  exact ne_at S.nd hq hi' "method-wrapper" "list_iterator" rfl rfl (by decide)
theorem kept_nil_cons {A : List Addr} {p : Addr × Obj} (hK : Kept A led led') : Kept A led (p :: led') := kept_cons hK
theorem SI.push {q it : Addr} (S : SI w nds kept fr0 ls li sn dn led stk fin) (hn : n ∈ nds) (hK : Kept [ls, li, sn, dn] led led') (nd' : (led'.map (·.1)).Nodup)
    (h1 : ∃ vs ep, StrsAre vs ((stk.map (·.name)).reverse ++ [n.name]) ∧ (ls, W.listOf vs.toArray ep) ∈ led') (h2 : ∃ ep, (li, W.listOf ((stk.map fun f => Value.ref f.q).reverse ++ [Value.ref q]).toArray ep) ∈ led')
    (h3 : ∃ (so : Obj) (S : Str → Bool) (k : Nat), so.SetObjOf (strKind prog w) S k ∧ (∀ x, S x = true ↔ x = n.name ∨ x ∈ stk.map (·.name) ++ fin) ∧ k ≤ (stk.map (·.name) ++ fin).length + 1 ∧ (sn, so) ∈ led')
    (h4 : ∃ (od : Obj) (kvs : List (Str × Value)), od.IsDictOf (strKind prog w) kvs ∧ (dn, od) ∈ led' ∧ kvs.map (·.1) = (stk.map (·.name)).reverse ++ [n.name] ∧ ∀ (j : Nat) (k : Str) (v : Value), kvs[j]? = some (k, v) → ∃ t : Tok, v = .int (j : Int) t)
    (hq : (q, nextObj it) ∈ led') (hit : (it, iterObj n.sl 0) ∈ led') (b1 : bnd led ≤ q) (b2 : bnd led ≤ it) : SI w nds kept fr0 ls li sn dn led' (⟨⟨n.name, 0⟩, q, it⟩ :: stk) fin := by
  obtain ⟨a1, a2, a3, a4, a5, a6⟩ := S.apart5
  obtain ⟨f1, u1, u2⟩ := S.frm
  have e1 := sameUp_fst u1
  have off : ∀ p ∈ led, (p.1 ∈ (kept ++ fr0).map (·.1)) → p ∈ led' := fun p hp hm => hK p hp fun hc => by
    obtain ⟨c1, c2, c3, c4, _⟩ := S.own p.1 hm
    simp only [List.mem_cons, List.not_mem_nil, or_false] at hc
    rcases hc with h | h | h | h
    · exact c1 h
    · exact c2 h
    · exact c3 h
    · exact c4 h
  have hin : ∀ g ∈ stk, (g.q, nextObj g.it) ∈ led' ∧ ∃ m ∈ nds, m.name = g.name ∧ (g.it, iterObj m.sl g.i) ∈ led' := fun g hg => by
    obtain ⟨c1, c2, c3, c4, c5, c6, c7, c8, _⟩ := a6 g hg
    refine ⟨hK.get (S.L.wrap g hg) (by simp [c1, c2, c3, c4]), ?_⟩
    obtain ⟨m, hm, hm2, hi⟩ := S.L.iter g hg
    exact ⟨m, hm, hm2, hK.get hi (by simp [c5, c6, c7, c8])⟩
  refine ⟨⟨?_, ?_, ?_, ?_, S.L.lo, ?_, ?_, ?_, S.L.lsli⟩, fun p hp => off p (S.keep p hp) (by rw [List.map_append]; exact List.mem_append_left _ (List.mem_map_of_mem hp)), ⟨f1, u1, fun p hp => off p (u2 p hp) ?_⟩, nd', ?_⟩
  · obtain ⟨vs, ep, h, h'⟩ := h1; exact ⟨vs, ep, by simpa using h, h'⟩
  · obtain ⟨ep, h⟩ := h2; exact ⟨ep, by simpa using h⟩
  · obtain ⟨so, Sf, k, x1, x2, x3, x4⟩ := h3
    exact ⟨so, Sf, k, x1, fun x => by rw [x2 x, List.map_cons, List.cons_append, List.mem_cons], by simpa using x3, x4⟩
  · obtain ⟨od, kvs, x1, x2, x3, x4⟩ := h4
    exact ⟨od, kvs, x1, x2, by simpa using x3, x4⟩
  · intro g hg
    rcases List.mem_cons.mp hg with rfl | hg
    · exact hq
    · exact (hin g hg).1
  · intro g hg
    rcases List.mem_cons.mp hg with rfl | hg
    · exact ⟨n, hn, rfl, hit⟩
    · exact (hin g hg).2
  · rw [List.map_cons, List.nodup_cons]
    refine ⟨fun h => ?_, S.L.apart⟩
    obtain ⟨g, hg, e⟩ := List.mem_map.mp h
    obtain ⟨m, _, _, hi⟩ := S.L.iter g hg
    have := mem_lt hi
    have e' : g.it = it := e
    rw [e'] at this
    exact absurd this (Nat.not_lt.mpr b2)
  · rw [List.map_append]; exact List.mem_append_right _ (by rw [← e1]; exact List.mem_map_of_mem hp)
  · intro a ha
    obtain ⟨c1, c2, c3, c4, c5⟩ := S.own a ha
    have hlt : @LT.lt Nat instLTNat a (bnd led) := by
      rw [List.map_append] at ha
      rcases List.mem_append.mp ha with ha | ha
      · obtain ⟨p, hp, rfl⟩ := List.mem_map.mp ha
        exact lt_bnd (S.keep p hp)
      · rw [← e1] at ha
        obtain ⟨p, hp, rfl⟩ := List.mem_map.mp ha
        exact lt_bnd (u2 p hp)
    refine ⟨c1, c2, c3, c4, fun g hg => ?_⟩
    rcases List.mem_cons.mp hg with rfl | hg
    · exact ⟨(ne_of_lt' (Nat.lt_of_lt_of_le hlt b1)).symm, (ne_of_lt' (Nat.lt_of_lt_of_le hlt b2)).symm⟩
    · exact c5 g hg
theorem SI.next (S : SI w nds kept fr0 ls li sn dn led (f :: r) fin) (hn : n ∈ nds) (hnm : n.name = f.name) (hK : Kept [f.it] led led') (nd' : (led'.map (·.1)).Nodup) (hit : (f.it, iterObj n.sl (f.i + 1)) ∈ led') :
    SI w nds kept fr0 ls li sn dn led' (⟨⟨f.name, f.i + 1⟩, f.q, f.it⟩ :: r) fin := by
  obtain ⟨a1, a2, a3, a4, a5, a6⟩ := S.apart5
  obtain ⟨f1, u1, u2⟩ := S.frm
  have e1 := sameUp_fst u1
  obtain ⟨c1, c2, c3, c4, c5, c6, c7, c8, c9⟩ := a6 f (.head _)
  have off : ∀ p ∈ led, (p.1 ∈ (kept ++ fr0).map (·.1)) → p ∈ led' := fun p hp hm => hK p hp fun hc => ((S.own p.1 hm).2.2.2.2 f (.head _)).2 (List.mem_singleton.mp hc)
  have get : ∀ {b : Addr} {o : Obj}, (b, o) ∈ led → b ≠ f.it → (b, o) ∈ led' := fun h hb => hK.get h fun hc => hb (List.mem_singleton.mp hc)
  have hap := S.L.apart
  rw [List.map_cons, List.nodup_cons] at hap
  refine ⟨⟨?_, ?_, ?_, ?_, S.L.lo, ?_, ?_, ?_, S.L.lsli⟩, fun p hp => off p (S.keep p hp) (by rw [List.map_append]; exact List.mem_append_left _ (List.mem_map_of_mem hp)), ⟨f1, u1, fun p hp => off p (u2 p hp) ?_⟩, nd', ?_⟩
  · obtain ⟨vs, ep, h, h'⟩ := S.L.stack; exact ⟨vs, ep, h, get h' (Ne.symm c5)⟩
  · obtain ⟨ep, h⟩ := S.L.iters; exact ⟨ep, get h (Ne.symm c6)⟩
  · obtain ⟨so, Sf, k, x1, x2, x3, x4⟩ := S.L.seen; exact ⟨so, Sf, k, x1, x2, x3, get x4 (Ne.symm c7)⟩
  · obtain ⟨od, kvs, x1, x2, x3, x4⟩ := S.L.dict; exact ⟨od, kvs, x1, get x2 (Ne.symm c8), x3, x4⟩
  · intro g hg
    rcases List.mem_cons.mp hg with rfl | hg
    · exact get (S.L.wrap f (.head _)) (c9 f (.head _))
    · exact get (S.L.wrap g (.tail _ hg)) ((a6 g (.tail _ hg)).2.2.2.2.2.2.2.2 f (.head _))
  · intro g hg
    rcases List.mem_cons.mp hg with rfl | hg
    · exact ⟨n, hn, hnm, hit⟩
    · obtain ⟨m, hm, hm2, hi⟩ := S.L.iter g (.tail _ hg)
      exact ⟨m, hm, hm2, get hi fun e => hap.1 (List.mem_map.mpr ⟨g, hg, e⟩)⟩
  · rw [List.map_cons, List.nodup_cons]; exact hap
  · rw [List.map_append]; exact List.mem_append_right _ (by rw [← e1]; exact List.mem_map_of_mem hp)
  · intro a ha
    obtain ⟨d1, d2, d3, d4, d5⟩ := S.own a ha
    refine ⟨d1, d2, d3, d4, fun g hg => ?_⟩
    rcases List.mem_cons.mp hg with rfl | hg
    · exact d5 f (.head _)
    · exact d5 g (.tail _ hg)
theorem SI.pop (S : SI w nds kept fr0 ls li sn dn led (f :: r) fin) (hap' : ∀ p ∈ kept, p.1 ∉ fr0.map (·.1)) (hK : Kept (f.it :: ls :: li :: dn :: fr0.map (·.1)) led led') (nd' : (led'.map (·.1)).Nodup)
    (h1 : ∃ vs ep, StrsAre vs ((r.map (·.name)).reverse) ∧ (ls, W.listOf vs.toArray ep) ∈ led') (h2 : ∃ ep, (li, W.listOf ((r.map fun f => Value.ref f.q).reverse).toArray ep) ∈ led')
    (h4 : ∃ (od : Obj) (kvs : List (Str × Value)), od.IsDictOf (strKind prog w) kvs ∧ (dn, od) ∈ led' ∧ kvs.map (·.1) = (r.map (·.name)).reverse ∧ ∀ (j : Nat) (k : Str) (v : Value), kvs[j]? = some (k, v) → ∃ t : Tok, v = .int (j : Int) t)
    (h5 : ∃ f1, SameUp fr0 f1 ∧ ∀ p ∈ f1, p ∈ led') : SI w nds kept fr0 ls li sn dn led' r (fin ++ [f.name]) := by
  obtain ⟨a1, a2, a3, a4, a5, a6⟩ := S.apart5
  obtain ⟨f1, u1, u2⟩ := S.frm
  have e1 := sameUp_fst u1
  have hap := S.L.apart
  rw [List.map_cons, List.nodup_cons] at hap
  have frne : ∀ b ∈ fr0.map (·.1), b ≠ ls ∧ b ≠ li ∧ b ≠ sn ∧ b ≠ dn ∧ ∀ g ∈ f :: r, b ≠ g.q ∧ b ≠ g.it := fun b hb => S.own b (by rw [List.map_append]; exact List.mem_append_right _ hb)
  have get : ∀ {b : Addr} {o : Obj}, (b, o) ∈ led → b ≠ f.it → b ≠ ls → b ≠ li → b ≠ dn → b ∉ fr0.map (·.1) → (b, o) ∈ led' := fun h x1 x2 x3 x4 x5 => hK.get h fun hc => by
    simp only [List.mem_cons] at hc
    rcases hc with h | h | h | h | h
    · exact x1 h
    · exact x2 h
    · exact x3 h
    · exact x4 h
    · exact x5 h
  refine ⟨⟨h1, h2, ?_, h4, S.L.lo, ?_, ?_, hap.2, S.L.lsli⟩, fun p hp => ?_, h5, nd', ?_⟩
  · obtain ⟨so, Sf, k, x1, x2, x3, x4⟩ := S.L.seen
    refine ⟨so, Sf, k, x1, fun x => ?_, ?_, get x4 (Ne.symm (a6 f (.head _)).2.2.2.2.2.2.1) (Ne.symm a1) (Ne.symm a3) a5 fun hm => (frne _ hm).2.2.1 rfl⟩
    · rw [x2 x]; simp only [List.map_cons, List.cons_append, List.mem_cons, List.mem_append, List.mem_singleton, List.not_mem_nil, or_false]
      constructor
      · rintro (h | h | h)
        · exact .inr (.inr h)
        · exact .inl h
        · exact .inr (.inl h)
      · rintro (h | h | h)
        · exact .inr (.inl h)
        · exact .inr (.inr h)
        · exact .inl h
    · simp only [List.map_cons, List.cons_append, List.length_cons, List.length_append, List.length_map, List.length_nil] at x3 ⊢; omega
  · intro g hg
    obtain ⟨c1, c2, c3, c4, _, _, _, _, c9⟩ := a6 g (.tail _ hg)
    exact get (S.L.wrap g (.tail _ hg)) (c9 f (.head _)) c1 c2 c4 fun hm => ((frne _ hm).2.2.2.2 g (.tail _ hg)).1 rfl
  · intro g hg
    obtain ⟨_, _, _, _, c5, c6, c7, c8, _⟩ := a6 g (.tail _ hg)
    obtain ⟨m, hm, hm2, hi⟩ := S.L.iter g (.tail _ hg)
    exact ⟨m, hm, hm2, get hi (fun e => hap.1 (List.mem_map.mpr ⟨g, hg, e⟩)) c5 c6 c8 fun hm => ((frne _ hm).2.2.2.2 g (.tail _ hg)).2 rfl⟩
  · have ho := S.own p.1 (by rw [List.map_append]; exact List.mem_append_left _ (List.mem_map_of_mem hp))
    exact get (b := p.1) (o := p.2) (S.keep p hp) (ho.2.2.2.2 f (.head _)).2 ho.1 ho.2.1 ho.2.2.2.1 (hap' p hp)
  · intro a ha
    obtain ⟨d1, d2, d3, d4, d5⟩ := S.own a ha
    exact ⟨d1, d2, d3, d4, fun g hg => d5 g (.tail _ hg)⟩
theorem Led.mono (S : Led w nds led ls li sn dn stk fin) (hs : ∀ p ∈ led, p ∈ led') : Led w nds led' ls li sn dn stk fin where
  stack := by obtain ⟨vs, ep, h, h'⟩ := S.stack; exact ⟨vs, ep, h, hs _ h'⟩
  iters := by obtain ⟨ep, h⟩ := S.iters; exact ⟨ep, hs _ h⟩
  seen := by obtain ⟨so, Sf, k, x1, x2, x3, x4⟩ := S.seen; exact ⟨so, Sf, k, x1, x2, x3, hs _ x4⟩
  dict := by obtain ⟨od, kvs, x1, x2, x3, x4⟩ := S.dict; exact ⟨od, kvs, x1, hs _ x2, x3, x4⟩
  lo := S.lo
  wrap := fun f hf => hs _ (S.wrap f hf)
  iter := fun f hf => by obtain ⟨m, hm, hm2, hi⟩ := S.iter f hf; exact ⟨m, hm, hm2, hs _ hi⟩
  apart := S.apart
  lsli := S.lsli
theorem SI.consI {I : Addr} {io : Obj} (S : SI w nds kept fr0 ls li sn dn led stk fin) (hnd : (((I, io) :: led).map (·.1)).Nodup) : SI w nds ((I, io) :: kept) fr0 ls li sn dn ((I, io) :: led) stk fin := by
  obtain ⟨f1, u1, u2⟩ := S.frm
  refine ⟨S.L.mono fun p hp => .tail _ hp, fun p hp => ?_, ⟨f1, u1, fun p hp => .tail _ (u2 p hp)⟩, hnd, fun a ha => ?_⟩
  · rcases List.mem_cons.mp hp with rfl | hp
    · exact .head _
    · exact .tail _ (S.keep p hp)
  · rw [List.cons_append, List.map_cons] at ha
    rcases List.mem_cons.mp ha with rfl | ha
    · obtain ⟨vs, ep, _, h1⟩ := S.L.stack
      obtain ⟨ep2, h2⟩ := S.L.iters
      obtain ⟨so, Sf, k, hso, _, _, h3⟩ := S.L.seen
      obtain ⟨od, kvs, hod, h4, _⟩ := S.L.dict
      refine ⟨neI hnd h1, neI hnd h2, neI hnd h3, neI hnd h4, fun f hf => ⟨neI hnd (S.L.wrap f hf), ?_⟩⟩
      obtain ⟨m, _, _, hi⟩ := S.L.iter f hf
      exact neI hnd hi
    · exact S.own a ha
theorem SI.drop {I : Addr} {io : Obj} (S : SI w nds ((I, io) :: kept) fr0 ls li sn dn led stk fin) (hI : ∀ p ∈ kept, p.1 ≠ I) (hF : I ∉ fr0.map (·.1)) : SI w nds kept fr0 ls li sn dn (dropA I led) stk fin := by
  obtain ⟨f1, u1, u2⟩ := S.frm
  have e1 := sameUp_fst u1
  obtain ⟨o1, o2, o3, o4, o5⟩ := S.own I (by simp)
  refine ⟨⟨?_, ?_, ?_, ?_, S.L.lo, ?_, ?_, S.L.apart, S.L.lsli⟩, fun p hp => mem_dropA.mpr ⟨S.keep p (.tail _ hp), hI p hp⟩, ⟨f1, u1, fun p hp => mem_dropA.mpr ⟨u2 p hp, fun e => hF (by rw [← e1, ← e]; exact List.mem_map_of_mem hp)⟩⟩, S.nd.sublist ((List.filter_sublist).map _), fun a ha => S.own a (by rw [List.cons_append, List.map_cons]; exact .tail _ ha)⟩
  · obtain ⟨vs, ep, h, h'⟩ := S.L.stack; exact ⟨vs, ep, h, mem_dropA.mpr ⟨h', Ne.symm o1⟩⟩
  · obtain ⟨ep, h⟩ := S.L.iters; exact ⟨ep, mem_dropA.mpr ⟨h, Ne.symm o2⟩⟩
  · obtain ⟨so, Sf, k, x1, x2, x3, x4⟩ := S.L.seen; exact ⟨so, Sf, k, x1, x2, x3, mem_dropA.mpr ⟨x4, Ne.symm o3⟩⟩
  · obtain ⟨od, kvs, x1, x2, x3, x4⟩ := S.L.dict; exact ⟨od, kvs, x1, mem_dropA.mpr ⟨x2, Ne.symm o4⟩, x3, x4⟩
  · exact fun f hf => mem_dropA.mpr ⟨S.L.wrap f hf, Ne.symm (o5 f hf).1⟩
  · intro f hf
    obtain ⟨m, hm, hm2, hi⟩ := S.L.iter f hf
    exact ⟨m, hm, hm2, mem_dropA.mpr ⟨hi, Ne.symm (o5 f hf).2⟩⟩
theorem si_init {so od : Obj} {kept fr0 led : List (Addr × Obj)} {ls li sn dn : Addr} {w : World} {nds : List NA} (hk : ∀ p ∈ kept, p ∈ led) (hf : ∀ p ∈ fr0, p ∈ led) (hnd : (led.map (·.1)).Nodup) (b1 : bnd led ≤ ls) (b2 : @LT.lt Nat instLTNat ls li ∧ bnd led ≤ li) (b3 : @LT.lt Nat instLTNat li sn ∧ @LT.lt Nat instLTNat ls sn ∧ bnd led ≤ sn) (b4 : @LT.lt Nat instLTNat sn dn ∧ @LT.lt Nat instLTNat li dn ∧ @LT.lt Nat instLTNat ls dn ∧ bnd led ≤ dn)
    (hso : so.SetObjOf (strKind prog w) (fun _ => false) 0) (hod : od.IsDictOf (strKind prog w) []) (lo : (dn == sysModules) = false) :
    SI w nds kept fr0 ls li sn dn ((dn, od) :: (sn, so) :: (li, W.listOf #[] 0) :: (ls, W.listOf #[] 0) :: led) [] [] := by
  have a1 : adr (dn, od) = dn := rfl
  have a2 : adr (sn, so) = sn := rfl
  have a3 : adr (li, W.listOf #[] 0) = li := rfl
  have a4 : adr (ls, W.listOf #[] 0) = ls := rfl
  refine ⟨⟨⟨[], 0, .nil, .tail _ (.tail _ (.tail _ (.head _)))⟩, ⟨0, .tail _ (.tail _ (.head _))⟩, ⟨so, _, 0, hso, fun x => by simp, Nat.le_refl _, .tail _ (.head _)⟩, ⟨od, [], hod, .head _, rfl, fun j k v h => by simp at h⟩, lo, fun f h => (nomatch h), fun f h => (nomatch h), List.nodup_nil, fun e => ?_⟩, fun p hp => .tail _ (.tail _ (.tail _ (.tail _ (hk p hp)))), ⟨fr0, SameUp.refl _, fun p hp => .tail _ (.tail _ (.tail _ (.tail _ (hf p hp))))⟩, ?_, fun a ha => ?_⟩
  · have h := b2.1; rw [e] at h; exact absurd h (Nat.lt_irrefl _)
  · refine nodup_cons_of (nodup_cons_of (nodup_cons_of (nodup_cons_of hnd ?_) ?_) ?_) ?_
    all_goals (simp only [bnd_cons, a1, a2, a3, a4]; (repeat' (with_reducible refine Nat.max_le.mpr ⟨?_, ?_⟩)) <;> omega)
  · have hlt : @LT.lt Nat instLTNat a (bnd led) := by
      rw [List.map_append] at ha
      rcases List.mem_append.mp ha with ha | ha
      · obtain ⟨p, hp, rfl⟩ := List.mem_map.mp ha
        exact lt_bnd (hk p hp)
      · obtain ⟨p, hp, rfl⟩ := List.mem_map.mp ha
        exact lt_bnd (hf p hp)
    exact ⟨(ne_of_lt' (Nat.lt_of_lt_of_le hlt b1)).symm, (ne_of_lt' (Nat.lt_of_lt_of_le hlt b2.2)).symm, (ne_of_lt' (Nat.lt_of_lt_of_le hlt b3.2.2)).symm, (ne_of_lt' (Nat.lt_of_lt_of_le hlt b4.2.2.2)).symm, fun f h => nomatch h⟩
theorem SI.count {names : List Str} (S : SI w nds kept fr0 ls li sn dn led stk fin) (D : DInv sc names fin (stk.map (·.toFm))) : (stk.map (·.name) ++ fin).length ≤ names.length := by
  have h := sum_le_of_nodup (fun _ => 1) _ names D.nodup D.sub
  simp only [List.map_const', List.sum_replicate_nat, Nat.mul_one] at h
  simpa using h
end
section
variable {prog : Program} {w : World} {A : Around} {E : Value → Shared → Prop} {s : Shared} {h₀ : Heap} {L d : Addr} {m : Str → Option Value} {news : List (Addr × Obj)} {g : Obj → List (Addr × Obj)} {kvs : List (Str × Value)} {o : Obj} {k : Str} {key : Value}
theorem del_led {Q : Unit → Shared → Prop} (F : Fr h₀ L s.heap m) (N : News h₀ L s.heap news) (U : UpdF d o news g) (hd : o.IsDictOf (strKind prog w) kvs) (hkey : (strKind prog w).is k key = true) (hl : (valueAt kvs k).isSome = true) (hsz : kvs.length ≤ sizeLine)
    (h : ∀ h' o', Fr h₀ L h' m → News h₀ L h' (g o') → o'.IsDictOf (strKind prog w) (without kvs k) → Q () { s with heap := h', toks := s.toks + 1 }) : wpAny (model prog w) A (delItem (.ref d) key) Q E s := by
  obtain ⟨pre, post, rfl, hg, a, b⟩ := U.split
  have hm := N (d, o) (List.mem_append_right _ (.head _))
  have hD : s.heap.DictOf (strKind prog w) d kvs := Heap.dictOf_iff.mpr ⟨o, hm.1, hd⟩
  unfold delItem
  try with_reducible refine wpAny_holding ?_
  refine wpAny_bind (wpAny_sequenceKey hD.typeIs (by decide) ?_)
  refine wpAny_bind (wpAny_callSpecial?_slot (name := Str.ofString "__delitem__") hD.typeIs PySem.F.slot_dict_delitem
    (call_meetsIn PySem.F.slot_dict_delitem hD.typeIs PySem.F.entry_dict_delitem (PySem.F.args_dict_delitem_2 _ _) (meets_dict_delitem_pairs (strKind prog w) d hkey) ⟨kvs, hD, hsz, hl, fun h' hmm hs => ?_⟩))
  obtain ⟨o', ho', hd'⟩ := Heap.dictOf_iff.mp hmm
  exact wpAny_pure (h h' o' (F.change hs hm.2.1 hm.2.2) (hg o' ▸ N.setIn a b hs ho') hd')
end
theorem back_S {oL : Obj} {h₀ h' : Heap} {L L' : Addr} {m m' : Str → Option Value} {news frs led X : List (Addr × Obj)} {env : Env} {l : List Env} (C : TI.Caller h₀ L m oL) (F' : Fr h₀ L' h' m') (N' : News h₀ L' h' (X ++ led)) (hk : ∀ p ∈ news, p ∈ led)
    (hf : ∃ f1, SameUp ((L, oL) :: frs) f1 ∧ ∀ p ∈ f1, p ∈ led) (hnd : ((X ++ news ++ (L, oL) :: frs).map (·.1)).Nodup) (Fs : Frs (env :: l) ((L, oL) :: frs)) :
    ∃ frs'', SameUp frs frs'' ∧ Frs l frs'' ∧ Fr h₀ L h' m ∧ News h₀ L h' (X ++ news ++ frs'') ∧ ((X ++ news ++ frs'').map (·.1)).Nodup := by
  obtain ⟨f1, u1, u2⟩ := hf
  refine back_T C F' (news' := X ++ news) (Mine.News.sub N' fun p hp => ?_) u1 ?_ (Fs.up u1)
  · rcases List.mem_append.mp hp with hp | hp
    · rcases List.mem_append.mp hp with hp | hp
      · exact List.mem_append_left _ hp
      · exact List.mem_append_right _ (hk p hp)
    · exact List.mem_append_right _ (u2 p hp)
  · rw [List.map_append, sameUp_fst u1, ← List.map_append]; exact hnd
theorem dict_at {kvs : List (Str × Value)} {ks : List Str} {k : Str} (h1 : kvs.map (·.1) = ks) (hn : ks.Nodup) (h2 : ∀ (j : Nat) (k : Str) (v : Value), kvs[j]? = some (k, v) → ∃ t : Tok, v = .int (j : Int) t) (hk : k ∈ ks) : ∃ (j : Nat) (t : Tok), ks[j]? = some k ∧ valueAt kvs k = some (.int (j : Int) t) := by
  subst h1
  obtain ⟨p, hp, rfl⟩ := List.mem_map.mp hk
  obtain ⟨j, hj⟩ := List.getElem?_of_mem hp
  obtain ⟨t, ht⟩ := h2 j p.1 p.2 hj
  refine ⟨j, t, by rw [List.getElem?_map, hj]; rfl, ?_⟩
  rw [← ht]
  exact valueAt_of_get hn hj
theorem dict_no {kvs : List (Str × Value)} {ks : List Str} {k : Str} (h1 : kvs.map (·.1) = ks) (hk : k ∉ ks) : valueAt kvs k = none := by
  subst h1; exact PyProof.Rows.valueAt_none_of_not_mem hk
theorem pick_from (l : List Value) (j : Nat) (hj : j ≤ l.length) : kms_pick l (some (j : Int)) none = l.drop j := by
  unfold kms_pick kms_lo kms_hi
  dsimp only
  rw [if_neg (by omega), show min ((j : Int).toNat) l.length = j by omega]
  rw [List.take_of_length_le]
  rw [List.length_drop]
  exact Nat.le_refl _
theorem strs_drop {vs : List Value} {ys : List Str} (h : StrsAre vs ys) : ∀ j, StrsAre (vs.drop j) (ys.drop j) := by
  induction h with
  | nil => intro j; simp; exact .nil
  | cons z u h ih =>
    intro j
    cases j with
    | zero => exact .cons z u h
    | succ j => exact ih j
theorem bnd_two {led : List (Addr × Obj)} {r : Addr} (h : bnd led ≤ r) {p : Addr × Obj} (hp : p ∈ led) : p.1 ≠ r := bnd_ne h p hp
theorem stored_new {kvs : List (Str × Value)} {k : Str} {v : Value} (h : k ∉ kvs.map (·.1)) : stored kvs k v = kvs ++ [(k, v)] := by
  unfold stored
  rw [if_neg]
  simp only [List.any_eq_true, decide_eq_true_eq, not_exists, not_and]
  exact fun p hp e => h (List.mem_map.mpr ⟨p, hp, e⟩)
theorem dict_grow {kvs : List (Str × Value)} {k : Str} {t : Tok} {n : Nat} (hn : n = kvs.length) (h2 : ∀ (j : Nat) (k : Str) (v : Value), kvs[j]? = some (k, v) → ∃ t : Tok, v = .int (j : Int) t) :
    ∀ (j : Nat) (k' : Str) (v : Value), (kvs ++ [(k, Value.int (n : Int) t)])[j]? = some (k', v) → ∃ t : Tok, v = .int (j : Int) t := by
  intro j k' v h
  by_cases hj : j < kvs.length
  · rw [List.getElem?_append_left hj] at h; exact h2 j k' v h
  · rw [List.getElem?_append_right (by omega)] at h
    have hj0 : j - kvs.length = 0 := by
      by_cases e : j - kvs.length = 0
      · exact e
      · rw [List.getElem?_eq_none (by simp; omega)] at h; cases h
    rw [hj0] at h
    simp at h
    refine ⟨t, ?_⟩
    rw [← h.2, show j = n by omega]
theorem without_last {kvs : List (Str × Value)} {ks : List Str} {k : Str} (h1 : kvs.map (·.1) = ks ++ [k]) (hn : (ks ++ [k]).Nodup) (h2 : ∀ (j : Nat) (k : Str) (v : Value), kvs[j]? = some (k, v) → ∃ t : Tok, v = .int (j : Int) t) :
    (without kvs k).map (·.1) = ks ∧ (∀ (j : Nat) (k' : Str) (v : Value), (without kvs k)[j]? = some (k', v) → ∃ t : Tok, v = .int (j : Int) t) ∧ (valueAt kvs k).isSome = true := by
  have hne : kvs ≠ [] := fun e => by rw [e] at h1; simp at h1
  have hsp : kvs = kvs.dropLast ++ [kvs.getLast hne] := (List.dropLast_concat_getLast hne).symm
  have hm : kvs.dropLast.map (·.1) = ks ∧ (kvs.getLast hne).1 = k := by
    rw [hsp, List.map_append] at h1
    have := List.append_inj' h1 (by simp)
    exact ⟨this.1, by simpa using this.2⟩
  have hk : k ∉ kvs.dropLast.map (·.1) := by
    rw [hm.1]; rw [List.nodup_append] at hn
    exact fun h => hn.2.2 k h k (by simp) rfl
  have hw : without kvs k = kvs.dropLast := by
    conv => lhs; rw [hsp]
    unfold without
    rw [List.filter_append]
    have e1 := without_of_not_mem kvs.dropLast k hk
    unfold without at e1
    rw [e1]
    simp [hm.2]
  refine ⟨by rw [hw]; exact hm.1, fun j k' v h => ?_, ?_⟩
  · rw [hw] at h
    refine h2 j k' v ?_
    rw [hsp]
    have hj : j < kvs.dropLast.length := by
      by_cases c : j < kvs.dropLast.length
      · exact c
      · rw [List.getElem?_eq_none (by omega)] at h; cases h
    rw [List.getElem?_append_left hj]; exact h
  · obtain ⟨j, t, _, h⟩ := dict_at h1 hn h2 (k := k) (by simp)
    rw [h]; rfl
theorem strs_split {vs : List Value} {ys : List Str} {y : Str} (h : StrsAre vs (ys ++ [y])) : ∃ us v, vs = us ++ [v] ∧ StrsAre us ys ∧ ∃ t, v = .str y t := by
  induction ys generalizing vs with
  | nil =>
    cases h with
    | cons z u h => cases h; exact ⟨[], _, rfl, .nil, u, rfl⟩
  | cons a r ih =>
    cases h with
    | cons z u h =>
      obtain ⟨us, v, rfl, h2, t, h3⟩ := ih h
      exact ⟨_, v, rfl, .cons a u h2, t, h3⟩

end
section
open PySem PySem.W PyProof.Rows PySem.Spec PySem.Calls
set_option maxRecDepth 100000
section
variable {P : Program} {w : World} {A : Around} {E : Value → Shared → Prop} {s : Shared} {h₀ : Heap} {L : Addr} {m : Str → Option Value} {news : List (Addr × Obj)} {q it l : Addr} {i ep : Nat} {items : Array Value}
theorem iter_list {Q : Value → Shared → Prop} (F : Fr h₀ L s.heap m) (N : News h₀ L s.heap news) (hp : (l, W.listOf items ep) ∈ news)
    (h : ∀ (I : Addr) h', Fr h₀ L h' m → News h₀ L h' ((I, iterObj l 0) :: news) → (∀ p ∈ news, p.1 < I) → Q (.ref I) { s with heap := h' }) : wpAny (model P w) A (call (.builtin "iter") [.ref l]) Q E s := by
  refine call_function_entry (by decide +kernel) (by decide +kernel) kdk_entry_iter (kdk_args_iter _) ?_
  unfold Builtin.«iter»
  refine wpAny_bind (m := someArgs "iter" 1 2 _) (wpAny_of_eq (a := [Value.ref l]) (by first | rfl | kernel_rfl!) ?_)
  show wpAny _ _ (pyIter (.ref l) >>= _) _ _ _
  refine wpAny_bind (wpAny_pyIter_list (News.isList N hp) ?_)
  exact wpAny_pure ⟨_, rfl, h _ _ (F.push _) (News.push F N _ rfl) (fun q hq => Heap.lt_size (N q hq).1)⟩
theorem next_attr {Q : Value → Shared → Prop} (F : Fr h₀ L s.heap m) (N : News h₀ L s.heap news) (hp : (it, iterObj l i) ∈ news)
    (h : ∀ (I : Addr) h', Fr h₀ L h' m → News h₀ L h' ((I, nextObj it) :: news) → (∀ p ∈ news, p.1 < I) → Q (.ref I) { s with heap := h', toks := s.toks + 1 }) : wpAny (model P w) A (getAttr (.ref it) (Str.ofString "__next__") true) Q E s := by
  refine getAttr_next (N _ hp).1 (h _ _ (F.push _) (News.push F N _ rfl) (fun q hq => Heap.lt_size (N q hq).1))
theorem news_putA {h' : Heap} {b : Addr} {o o' : Obj} (N : News h₀ L s.heap news) (hnd : (news.map (·.1)).Nodup) (hp : (b, o) ∈ news) (hs : Heap.SameBut b s.heap h') (ho : h'.get? b = some o') : News h₀ L h' (putA b o' news) := by
  intro p hpm
  obtain ⟨q, hq, e⟩ := List.mem_map.mp hpm
  by_cases c : q.1 = b
  · rw [if_pos c] at e
    subst e
    have z := N _ hp
    exact ⟨ho, z.2.1, z.2.2⟩
  · rw [if_neg c] at e
    subst e
    have z := N q hq
    exact ⟨(hs.2 _ c).trans z.1, z.2.1, z.2.2⟩
theorem next_itemL {x : Value} {Q : Value → Shared → Prop} (F : Fr h₀ L s.heap m) (N : News h₀ L s.heap news) (hnd : (news.map (·.1)).Nodup) (hq : (q, nextObj it) ∈ news) (hit : (it, iterObj l i) ∈ news) (hl : (l, W.listOf items ep) ∈ news) (hx : items[i]? = some x)
    (h : ∀ h', Fr h₀ L h' m → News h₀ L h' (putA it (iterObj l (i + 1)) news) → Q x { s with heap := h' }) : wpAny (model P w) A (call (.ref q) []) Q E s := by
  have z := N _ hit
  exact next_item (N _ hq).1 z.1 (News.isList N hl) hx fun h' e hs => h h' (F.change hs z.2.1 z.2.2) (news_putA N hnd hit hs e)
theorem next_endL {Q : Value → Shared → Prop} (hh : A.handled = none) (F : Fr h₀ L s.heap m) (N : News h₀ L s.heap news) (hnd : (news.map (·.1)).Nodup) (hq : (q, nextObj it) ∈ news) (hit : (it, iterObj l i) ∈ news) (hl : (l, W.listOf items ep) ∈ news) (hx : items[i]? = none)
    (h : ∀ h₁ h' e, Fr h₀ L h₁ m → News h₀ L h₁ (putA it { cls := .type "list_iterator", data := .fields #[.none, .int i 0] } news) → Heap.NewExc h₁ h' e "StopIteration" → E (.ref e) { s with heap := h' }) : wpAny (model P w) A (call (.ref q) []) Q E s := by
  have z := N _ hit
  exact next_end hh (N _ hq).1 z.1 (News.isList N hl) hx fun h₁ h' e e1 hs hx' => h h₁ h' e (F.change hs z.2.1 z.2.2) (news_putA N hnd hit hs e1) hx'
theorem kl_last_snoc (p : List Value) (y : Value) : kl_last (p ++ [y]) = some (p, y) := by
  induction p with
  | nil => rfl
  | cons a r ih => show (match kl_last (r ++ [y]) with | some (p, y) => some (a :: p, y) | none => some ([], a)) = _; rw [ih]
theorem pop_led {D : Addr} {p : List Value} {y : Value} {n : Nat} {Q : Value → Shared → Prop} (F : Fr h₀ L s.heap m) (N : News h₀ L s.heap news) (hnd : (news.map (·.1)).Nodup) (hp : (D, W.listOf (p ++ [y]).toArray n) ∈ news) (hz : (p ++ [y]).length ≤ sizeLine)
    (h : ∀ h', Fr h₀ L h' m → News h₀ L h' (putA D (W.listOf p.toArray (n + 1)) news) → Q y { s with heap := h' }) : wpAny (model P w) A (call (.builtin "list.pop") [.ref D]) Q E s :=
  kl_pop F N (p := p) (y := y) (kl_last_snoc p y) (upd_putA hnd hp) hz h
end
theorem callWith_wrap0 {M : Model} {A : Around} {E : Value → Shared → Prop} {s : Shared} {q it : Addr} {env : Env} {pos : Pos} {Q : Value → Shared → Prop} (hq : s.heap.get? q = some (nextObj it)) (h : wpAny M A (call (.ref q) []) Q E s) :
    wpAny M A (callWith pos (.ref q) [] (backTo pos (starEach [] env)) []) Q E s := by
  show wpAny M A (callWith pos (.ref q) [] [] []) Q E s
  unfold callWith
  refine wpAny_bind (wpAny_holding (evalArgs_nil3 (wpAny_bind (wpAny_standAt ?_))))
  refine wpAny_bind (m := keeperOf (.ref q)) ?_
  unfold keeperOf
  refine wpAny_bind (wpAny_load hq ?_)
  show wpAny M A (pure Keeper.machine) _ E s
  refine wpAny_pure ?_
  show wpAny M A (call (.ref q) [] [] >>= fun r => do holding [r] point; pure r) _ _ _
  exact wpAny_bind (wpAny_mono h (fun r s₂ hr => wpAny_bind (wpAny_holding (wpAny_point (wpAny_pure hr)))) fun _ _ x => x)

end
section
local macro_rules | `(tactic| walk_at "none") => `(tactic| fail)
theorem offG6 : True := by
  w_top off
  trivial
open PySem PySem.W PyProof.Rows PyProof.Rows.TI
set_option maxRecDepth 100000
set_option maxHeartbeats 8000000
section
variable {w : World} {s₀ : Shared} {mg mb : Str → Option Value} {dp un : Nat} {gd : Option (List Code)} {cn : Str} {cs : Scope} {a : Addr} {ccd : Value} {cl : List (Str × Addr)} {outer : List Env} {h₀ : Heap} {L : Addr} {m : Str → Option Value} {news frs : List (Addr × Obj)} {s : Shared} {Q E : Value → Shared → Prop}
set_option pp.maxSteps 3000 in
theorem findCycle (F : Fr h₀ L s.heap m) (X : (hd.heap_1 w.params).In h₀) (N : News h₀ L s.heap (news ++ frs)) (T : Top hd.view_1 (looseW hd.view_1 [Str.ofString "_NodeInfo"]) (ExcName.means s₀.heap) mg mb h₀) (Fs : Frs outer frs) (hk : cs.kind = .function) (hnd : ((news ++ frs).map (·.1)).Nodup)
    {σ σd d : Addr} {nds : List NA} {np : Str → Int} {sc : Str → List Str} {rv : Value} {npo nfi : Int} {rest : List (Addr × Obj)}
    (R : SR w news σ σd d nds np sc rv npo nfi rest) (hkl : nds.length ≤ 800) (hscl : ∀ z, (sc z).length ≤ 800) (hscn : ∀ x ∈ nds.map (·.name), ∀ y ∈ sc x, y ∈ nds.map (·.name)) (hd : dp + 60 < recursionLimit) (hu : un + 100 < cLine)
    (retN : ∀ h' tk' frs' fin, SameUp frs frs' → Frs outer frs' → Fr h₀ L h' m → News h₀ L h' (news ++ frs') → ((news ++ frs').map (·.1)).Nodup → Topo sc fin → (∀ x ∈ nds.map (·.name), x ∈ fin) → Q .none { s with heap := h', toks := tk' })
    (retR : ∀ h' tk' frs' r ring vs ep c, SameUp frs frs' → Frs outer frs' → Fr h₀ L h' m → News h₀ L h' ((r, W.listOf vs.toArray ep) :: news ++ frs') → (((r, W.listOf vs.toArray ep) :: news ++ frs').map (·.1)).Nodup → StrsAre vs (ring ++ [c]) →
      Path sc (ring ++ [c]) → 2 ≤ (ring ++ [c]).length → (ring ++ [c])[0]? = some c → (ring ++ [c]).tail.Nodup → (∀ x ∈ ring ++ [c], x ∈ nds.map (·.name)) → Q (.ref r) { s with heap := h', toks := tk' })
    : wpAny (model (PySem.Challenge.rw_mr0291_01.row.prog) w) (ktrTop dp un gd cn cs L a ccd cl outer) (call (.ref 134) [.ref σ]) Q E s := by
  revert X; k_fill; intro X
  have hi := List.mem_append_left frs R.S.inst
  refine sealG fun GG1 hGG1 => ?_
  obtain ⟨e1, e2, e3, e4, k1, k2, k3, k4, t3, t4, hsd0⟩ := R.S.dict
  refine hGG1 ?_
  have hsd := List.mem_append_left frs hsd0
  refine wpAny_call ?_
  k_dflt (refine' code_T (binds := [(Str.ofString "self", .ref σ)]) (cn := cn) (cs := cs) (a := a) (ccd := ccd) (ccl := cl) ?kF ?kX ?kN ?kT ?kS ?k6 ?k7 ?k8 ?k9 ?kB ?_ ?kK ?c2 ?c3 ?c4 ?c5; (case kF => k_asm); (case kX => k_asm); (case kN => k_asm); (case kT => k_asm); (case kS => assumption); (case k6 => k_is); (case k7 => k_is); (case k8 => ktr_room); (case k9 => exact BindsTo.of_eq rfl); (case c5 => decide); (case kB => exact locs rfl); (case c2 => exact rfl); (case c3 => exact rfl); (case c4 => exact rfl); (case kK => assumption); k_whole; intro L' oL h' C' Fs' hneL F' N' l1; k_lt l1; (try dsimp only); (try k_fold))
  refine sealG fun GG2 hGG2 => ?_
  obtain ⟨led, hled⟩ : ∃ led, led = news ++ (L, oL) :: frs := ⟨_, rfl⟩
  refine hGG2 ?_
  rw [← hled] at N'
  have hndL : ((news ++ (L, oL) :: frs).map (·.1)).Nodup := by
    have hp : ((news ++ (L, oL) :: frs).map (·.1)).Perm (L :: (news ++ frs).map (·.1)) := by rw [List.map_append, List.map_append, List.map_cons]; exact List.perm_middle
    exact hp.symm.nodup (List.nodup_cons.mpr ⟨fun h => by obtain ⟨q, hq, e⟩ := List.mem_map.mp h; exact hneL q hq e, hnd⟩)
  have hapN : ∀ p ∈ news, p.1 ∉ ((L, oL) :: frs).map (·.1) := fun p hp hm => by
    rw [List.map_append, List.nodup_append] at hndL
    exact hndL.2.2 _ (List.mem_map_of_mem hp) _ hm rfl
  have hndF : (((L, oL) :: frs).map (·.1)).Nodup := by
    rw [List.map_append, List.nodup_append] at hndL; exact hndL.2.1
  rw [← hled] at hndL
  have hsubN : ∀ p ∈ news, p ∈ led := fun p hp => by rw [hled]; exact List.mem_append_left _ hp
  have hi' := hsubN _ R.S.inst
  have hsd' := hsubN _ hsd0
  have hbl : bnd led ≤ L' := by rw [hled, bnd_append]; exact l1
  repeat' ((fail_if_success (with_reducible show wpAny _ _ (exec (Stmt.For _ _ _ _ _) _) _ _ _)); (first | (k_unfold; (try dsimp only)) | (k_end; wrow_close) | walk1 | (dsimp only; walk1) | (leave1; try dsimp only)))
  rename_i h11 ls h10 b1 h9 tk1 li h8 b2 h7 sn h6 sb hs1 so1 b3 h5 dn h4 od1 lo1 dd1 fs1 hi1 fi1 b4 h3 F3 N3
  have hfrs : ∀ p ∈ (L, oL) :: frs, p ∈ led := fun p hp => by rw [hled]; exact List.mem_append_right _ hp
  have S0 : SI w nds news ((L, oL) :: frs) ls li sn dn _ [] [] := si_init hsubN hfrs hndL b1 b2 b3 b4 so1 dd1 lo1
  clear b1 b2 b3 b4 hs1 so1 dd1 fs1 hi1 fi1
  refine sealG fun GG3 hGG3 => ?_
  obtain ⟨od, hdd, hod⟩ := R.S.n2i
  refine hGG3 ?_
  have lo := R.S.lo
  refine for_led h₀ rfl rfl ?_
  repeat' ((fail_if_success (with_reducible show wpAny _ _ (pyIter _) _ _ _)); (first | (k_unfold; (try dsimp only)) | (k_end; wrow_close) | ((with_reducible show wpAny _ _ (exec _ _) _ _ { heap := _, gens := _, drawn := _, toks := _ + 1, os := _ }); refine genT ?_; intro __tkT) | walk1 | (dsimp only; walk1) | (leave1; try dsimp only)))
  have nkv : ((nds.map NA.pair).map (·.1)) = nds.map (·.name) := by rw [List.map_map]; rfl
  let JJ1 : Nat → (Str → Option Value) → List (Addr × Obj) → Prop := fun i m₁ led₁ => SameBut1 (Str.ofString "node") m₁ (fun y => if y = Str.ofString "node2stacki" then some (Value.ref dn) else if y = Str.ofString "seen" then some (Value.ref sn) else if y = Str.ofString "itstack" then some (Value.ref li) else if y = Str.ofString "stack" then some (Value.ref ls) else if y = Str.ofString "n2i" then some (Value.ref d) else List.lookup y [(Str.ofString "self", Value.ref σ)].reverse) ∧ ∃ fin, SI w nds news ((L, oL) :: frs) ls li sn dn led₁ [] fin ∧ DInv sc (nds.map (·.name)) fin [] ∧ ∀ x ∈ (nds.map (·.name)).take i, x ∈ fin
  k_dflt refine forAt_dict rfl (by k_asm) (by k_asm) S0.nd (S0.keep _ hdd) hod lo JJ1 ⟨SameBut1.refl _ _, [], S0, ⟨.nil, List.nodup_nil, fun x hx => nomatch hx⟩, fun x hx => by simp at hx⟩ ?turn ?done
  case done =>
    intro h4 tk4 m4 led4 F4 N4 hnd4 hD4 hJ
    refine sealG fun GG4 hGG4 => ?_
    obtain ⟨hm4, fin, S4, D4, hfin⟩ := hJ
    refine hGG4 ?_
    replace F4 := fr_same F4 hm4
    repeat' ((first | (k_unfold; (try dsimp only)) | (k_end; wrow_close) | ((with_reducible show wpAny _ _ (exec _ _) _ _ { heap := _, gens := _, drawn := _, toks := _ + 1, os := _ }); refine genT ?_; intro __tkT) | walk1 | (dsimp only; walk1) | (leave1; try dsimp only)))
    refine sealG fun GG5 hGG5 => ?_
    obtain ⟨frs5, u5, f5, F5, N5, nd5⟩ := back_S (X := []) C' (by k_asm) N4 S4.keep S4.frm (by rw [List.nil_append, ← hled]; exact hndL) Fs'
    refine hGG5 ?_
    exact retN _ _ frs5 fin u5 f5 F5 N5 nd5 D4.topo fun x hx => hfin x (by rw [List.length_map, ← List.length_map (f := (·.name)), List.take_length]; exact hx)
  case turn =>
    intro I i k t m₁ led₁ h tk io hki hJ hdd1 F2 N2 hnd2
    refine sealG fun GG6 hGG6 => ?_
    obtain ⟨hm₁, fin, S1, D1, hfin⟩ := hJ
    rw [map_set hm₁] at F2
    rw [nkv] at hki
    have S2 := S1.consI hnd2
    obtain ⟨led2, hled2⟩ : ∃ l, l = (I, io) :: led₁ := ⟨_, rfl⟩
    rw [← hled2] at N2 S2
    obtain ⟨so, Sf, ns, hso, hSf, hns, hsm⟩ := S2.L.seen
    refine hGG6 ?_
    have hct := S2.count D1
    rw [List.length_map] at hct
    repeat' ((fail_if_success (with_reducible show wpAny _ _ (compareOp CmpOp.In _ _) _ _ _)); (first | (k_unfold; (try dsimp only)) | (k_end; wrow_close) | ((with_reducible show wpAny _ _ (exec _ _) _ _ { heap := _, gens := _, drawn := _, toks := _ + 1, os := _ }); refine genT ?_; intro __tkT) | walk1 | (dsimp only; walk1) | (leave1; try dsimp only)))
    k_dflt (refine kse_in (knd := PySem.strKind _ _) (by k_asm) (updF_putA S2.nd hsm) hso (by unfold scanBound; omega) (strKind_is _ _ _ _) rfl ?_)
    cases hb : Sf k with
    | true =>
      repeat' ((first | (k_unfold; (try dsimp only)) | (k_end; wrow_close) | ((with_reducible show wpAny _ _ (exec _ _) _ _ { heap := _, gens := _, drawn := _, toks := _ + 1, os := _ }); refine genT ?_; intro __tkT) | walk1 | (dsimp only; walk1) | (leave1; try dsimp only)))
      refine sealG fun GG7 hGG7 => ?_
      subst hled2
      refine hGG7 ?_
      refine TurnEnd.cont (by k_asm) (by k_asm) hnd2 (fun p hp => by rw [List.mem_singleton.mp hp]; exact hdd1) ⟨SameBut1.set, fin, S1, D1, fun x hx => ?_⟩
      rcases (take_mem hki).mp hx with hx | rfl
      · exact hfin x hx
      · simpa using (hSf _).mp hb
    | false =>
      repeat' ((fail_if_success (with_reducible show wpAny _ _ (exec (Stmt.While _ _ _ _) _) _ _ _)); (first | (k_unfold; (try dsimp only)) | (k_end; wrow_close) | ((with_reducible show wpAny _ _ (exec _ _) _ _ { heap := _, gens := _, drawn := _, toks := _ + 1, os := _ }); refine genT ?_; intro __tkT) | walk1 | (dsimp only; walk1) | (leave1; try dsimp only)))
      let JJ2 : Nat → (Str → Option Value) → List (Addr × Obj) → Prop := fun n m₃ led₃ => ∃ k' t' fin' stk, m₃ = (fun y => if y = Str.ofString "node" then some (Value.str k' t') else (fun y => if y = Str.ofString "node2stacki" then some (Value.ref dn) else if y = Str.ofString "seen" then some (Value.ref sn) else if y = Str.ofString "itstack" then some (Value.ref li) else if y = Str.ofString "stack" then some (Value.ref ls) else if y = Str.ofString "n2i" then some (Value.ref d) else List.lookup y [(Str.ofString "self", Value.ref σ)].reverse) y) ∧ SI w nds ((I, io) :: news) ((L, oL) :: frs) ls li sn dn led₃ stk fin' ∧ DInv sc (nds.map (·.name)) fin' (stk.map (·.toFm)) ∧ Under sc fin' k' (stk.map (·.toFm)) ∧ k' ∈ nds.map (·.name) ∧ (k ∈ fin' ∨ k ∈ stk.map (·.name) ∨ k = k') ∧ (∀ x ∈ (nds.map (·.name)).take i, x ∈ fin') ∧ n = total sc (nds.map (·.name)) - taken sc fin' (stk.map (·.toFm))
      k_dflt refine while_led (n₀ := total sc (nds.map (·.name)) - taken sc fin []) JJ2 (by k_asm) (by k_asm) ⟨k, t, fin, [], rfl, S2, D1, trivial, List.mem_of_getElem? hki, .inr (.inr rfl), hfin, rfl⟩ ?_
      clear hso hSf hns hsm hct hb
      clear F2 N2
      intro n m₃ led₃ h₃ tk₃ F₃ N₃ hJ₃
      refine sealG fun GG8 hGG8 => ?_
      obtain ⟨k', t', fin', stk, rfl, S3, D3, U3, hk3, hc3, hf3, hn3⟩ := hJ₃
      refine hGG8 ?_
      repeat' ((fail_if_success (with_reducible show wpAny _ _ (exec (Stmt.If _ _ _ _) _) _ _ _)); (first | (k_unfold; (try dsimp only)) | (k_end; wrow_close) | ((with_reducible show wpAny _ _ (exec _ _) _ _ { heap := _, gens := _, drawn := _, toks := _ + 1, os := _ }); refine genT ?_; intro __tkT) | walk1 | (dsimp only; walk1) | (leave1; try dsimp only)))
      refine sealG fun GG9 hGG9 => ?_
      obtain ⟨Mid, hMid⟩ : ∃ Mid : Flow → Shared → Prop, Mid = fun f s' => (f = Flow.next ∧ ∃ h' tk' v led' stk', s' = { s with heap := h', toks := tk' } ∧ Fr h₀ L' h' (fun y => if y = Str.ofString "node" then some v else (fun y => if y = Str.ofString "node2stacki" then some (Value.ref dn) else if y = Str.ofString "seen" then some (Value.ref sn) else if y = Str.ofString "itstack" then some (Value.ref li) else if y = Str.ofString "stack" then some (Value.ref ls) else if y = Str.ofString "n2i" then some (Value.ref d) else List.lookup y [(Str.ofString "self", Value.ref σ)].reverse) y) ∧ News h₀ L' h' led' ∧ SI w nds ((I, io) :: news) ((L, oL) :: frs) ls li sn dn led' stk' fin' ∧ DInv sc (nds.map (·.name)) fin' (stk'.map (·.toFm)) ∧ Calm sc fin' (stk'.map (·.toFm)) ∧ (k ∈ fin' ∨ k ∈ stk'.map (·.name)) ∧ taken sc fin' (stk'.map (·.toFm)) = taken sc fin' (stk.map (·.toFm))) ∨ (∃ v, f = .ret v ∧ Q v s') := ⟨_, rfl⟩
      refine hGG9 ?_
      have hstn : stk.map (·.name) = (stk.map (·.toFm)).map (·.name) := by rw [List.map_map]; rfl
      have hstd : ((stk.map (·.name)).reverse).Nodup := by rw [hstn]; exact (List.reverse_perm _).symm.nodup (List.nodup_append.mp D3.nodup).1
      refine wpAny_mono (Q := Mid) ?iff ?after fun _ _ e => e
      case iff =>
        refine sealG fun GG10 hGG10 => ?_
        obtain ⟨so, Sf, ns, hso, hSf, hns, hsm⟩ := S3.L.seen
        have hct := S3.count D3
        rw [List.length_map] at hct
        obtain ⟨dob, kvs, hdob, hdm, hkvs, hkv2⟩ := S3.L.dict
        refine hGG10 ?_
        repeat' ((fail_if_success (with_reducible show wpAny _ _ (compareOp CmpOp.In _ _) _ _ _)); (first | (k_unfold; (try dsimp only)) | (k_end; wrow_close) | ((with_reducible show wpAny _ _ (exec _ _) _ _ { heap := _, gens := _, drawn := _, toks := _ + 1, os := _ }); refine genT ?_; intro __tkT) | walk1 | (dsimp only; walk1) | (leave1; try dsimp only)))
        k_dflt (refine kse_in (knd := PySem.strKind _ _) (by k_asm) (updF_putA S3.nd hsm) hso (by unfold scanBound; omega) (strKind_is _ _ _ _) rfl ?_)
        cases hb : Sf k' with
        | true =>
          repeat' ((fail_if_success (with_reducible show wpAny _ _ (compareOp CmpOp.In _ _) _ _ _)); (first | (k_unfold; (try dsimp only)) | (k_end; wrow_close) | ((with_reducible show wpAny _ _ (exec _ _) _ _ { heap := _, gens := _, drawn := _, toks := _ + 1, os := _ }); refine genT ?_; intro __tkT) | walk1 | (dsimp only; walk1) | (leave1; try dsimp only)))
          by_cases hks : k' ∈ (stk.map (·.name)).reverse
          · refine sealG fun GG11 hGG11 => ?_
            obtain ⟨j, tj, hj, hva⟩ := dict_at hkvs hstd hkv2 hks
            refine hGG11 ?_
            k_dflt (refine kda_in (knd := PySem.strKind _ _) (by k_asm) hdm hdob S3.L.lo (strKind_is _ _ _ _) true (by rw [hva]; rfl) ?_)
            repeat' ((fail_if_success (with_reducible show wpAny _ _ (subscriptTail _ _ _ _) _ _ _)); (first | (k_unfold; (try dsimp only)) | (k_end; wrow_close) | ((with_reducible show wpAny _ _ (exec _ _) _ _ { heap := _, gens := _, drawn := _, toks := _ + 1, os := _ }); refine genT ?_; intro __tkT) | walk1 | (dsimp only; walk1) | (leave1; try dsimp only)))
            k_dflt (refine kda_item (knd := PySem.strKind _ _) (by k_asm) hdm hdob (strKind_is _ _ _ _) hva ?_)
            repeat' ((fail_if_success (with_reducible show wpAny _ _ (subscriptTail _ _ _ _) _ _ _)); (first | (k_unfold; (try dsimp only)) | (k_end; wrow_close) | ((with_reducible show wpAny _ _ (exec _ _) _ _ { heap := _, gens := _, drawn := _, toks := _ + 1, os := _ }); refine genT ?_; intro __tkT) | walk1 | (dsimp only; walk1) | (leave1; try dsimp only)))
            refine sealG fun GG12 hGG12 => ?_
            obtain ⟨vs, ep, hvs, hls⟩ := S3.L.stack
            refine hGG12 ?_
            have hvl := strs_len hvs
            rw [List.length_reverse, List.length_map] at hvl
            have hjl := (List.getElem?_eq_some_iff.mp hj).1
            rw [List.length_reverse, List.length_map] at hjl
            rw [List.length_append, List.length_map] at hct
            k_dflt (refine kms_slice_lit (by k_asm) (by k_asm) (News.isList N₃ hls) (by kmk_part) (by kmk_part) (pick_from vs j (by omega)) ?_ (by with_unfolding_all rfl) (by kmk_pure) (by rw [sizeLine_eq, List.size_toArray]; omega))
            intro D5 h5 F5 N5 l5
            k_lt l5
            repeat' ((fail_if_success (with_reducible show wpAny _ _ (binaryOp _ _ _) _ _ _)); (first | (k_unfold; (try dsimp only)) | (k_end; wrow_close) | ((with_reducible show wpAny _ _ (exec _ _) _ _ { heap := _, gens := _, drawn := _, toks := _ + 1, os := _ }); refine genT ?_; intro __tkT) | walk1 | (dsimp only; walk1) | (leave1; try dsimp only)))
            rename News h₀ L' _ (_ :: (D5, _) :: _) => N6
            k_dflt (refine kmk_add_lit (by k_asm) N6 (News.isList N6 (.tail _ (.head _))) (News.isList N6 (.head _)) rfl ?_ (by rw [sizeLine_eq]; simp only [List.length_drop, List.length_cons, List.length_nil]; omega))
            intro D7 h7 F7 N7 l7
            k_lt l7
            repeat' ((first | (k_unfold; (try dsimp only)) | (k_end; wrow_close) | ((with_reducible show wpAny _ _ (exec _ _) _ _ { heap := _, gens := _, drawn := _, toks := _ + 1, os := _ }); refine genT ?_; intro __tkT) | walk1 | (dsimp only; walk1) | (leave1; try dsimp only)))
            have hring : StrsAre ((List.drop j vs).toArray.toList ++ #[Value.str k' t'].toList) (((stk.map (·.name)).reverse).drop j ++ [k']) := strs_snoc (strs_drop hvs j) k' t'
            have hro := ring_ok D3 U3 (k := j) (by rw [← hstn]; exact hj)
            rw [← hstn] at hro
            refine sealG fun GG13 hGG13 => ?_
            obtain ⟨r1, r2, r3, r4, r5⟩ := hro
            have hb7 : bnd led₃ ≤ D7 := l7.2.2
            obtain ⟨g1, gu1, gu2⟩ := S3.frm
            have hnd7 : (([(D7, W.listOf ((List.drop j vs).toArray.toList ++ #[Value.str k' t'].toList).toArray 0)] ++ news ++ (L, oL) :: frs).map (·.1)).Nodup := by
              rw [List.singleton_append, List.cons_append, List.map_cons, List.nodup_cons]
              refine ⟨fun hm => ?_, by rw [← hled]; exact hndL⟩
              rw [List.map_append] at hm
              rcases List.mem_append.mp hm with hm | hm
              · obtain ⟨p, hp, e⟩ := List.mem_map.mp hm
                exact bnd_ne hb7 p (S3.keep p (.tail _ hp)) e
              · rw [← sameUp_fst gu1] at hm
                obtain ⟨p, hp, e⟩ := List.mem_map.mp hm
                exact bnd_ne hb7 p (gu2 p hp) e
            obtain ⟨frs8, u8, f8, F8, N8, nd8⟩ := back_S (X := [(D7, W.listOf ((List.drop j vs).toArray.toList ++ #[Value.str k' t'].toList).toArray 0)]) C' F7 (Mine.News.sub N7 fun p hp => by
              rcases List.mem_cons.mp hp with rfl | hp
              · exact .head _
              · exact .tail _ (.tail _ (.tail _ hp))) (fun p hp => S3.keep p (.tail _ hp)) S3.frm hnd7 Fs'
            refine hGG13 ?_
            rw [hMid]
            exact .inr ⟨_, rfl, retR _ _ frs8 D7 _ _ _ k' u8 f8 F8 N8 nd8 hring r1 r2 r3 r4 r5⟩
          · have hva := dict_no hkvs hks
            k_dflt (refine kda_in (knd := PySem.strKind _ _) (by k_asm) hdm hdob S3.L.lo (strKind_is _ _ _ _) false (by rw [hva]; rfl) ?_)
            repeat' ((first | (k_unfold; (try dsimp only)) | (k_end; wrow_close) | ((with_reducible show wpAny _ _ (exec _ _) _ _ { heap := _, gens := _, drawn := _, toks := _ + 1, os := _ }); refine genT ?_; intro __tkT) | walk1 | (dsimp only; walk1) | (leave1; try dsimp only)))
            have hkf : k' ∈ fin' := by
              rcases List.mem_append.mp ((hSf k').mp hb) with h | h
              · exact absurd (List.mem_reverse.mpr h) hks
              · exact h
            rw [hMid]
            refine .inl ⟨rfl, _, _, Value.str k' t', led₃, stk, rfl, by k_asm, by k_asm, S3, D3, calm_of_under U3 hkf, ?_, rfl⟩
            rcases hc3 with h | h | h
            · exact .inl h
            · exact .inr h
            · exact .inl (h ▸ hkf)
        | false =>
          repeat' ((fail_if_success (with_reducible show wpAny _ _ (getMethod _ _ _) _ _ _)); (first | (k_unfold; (try dsimp only)) | (k_end; wrow_close) | ((with_reducible show wpAny _ _ (exec _ _) _ _ { heap := _, gens := _, drawn := _, toks := _ + 1, os := _ }); refine genT ?_; intro __tkT) | walk1 | (dsimp only; walk1) | (leave1; try dsimp only)))
          k_dflt (refine kse_method (knd := PySem.strKind _ _) (by k_asm) (updF_putA S3.nd hsm) hso (by unfold scanBound; omega) ?_)
          repeat' ((fail_if_success (with_reducible show wpAny _ _ (PySem.call (Value.builtin "set.add") _ _) _ _ _)); (first | (k_unfold; (try dsimp only)) | (k_end; wrow_close) | ((with_reducible show wpAny _ _ (exec _ _) _ _ { heap := _, gens := _, drawn := _, toks := _ + 1, os := _ }); refine genT ?_; intro __tkT) | walk1 | (dsimp only; walk1) | (leave1; try dsimp only)))
          k_dflt (refine kse_add (knd := PySem.strKind _ _) (by k_asm) (by k_asm) (updF_putA S3.nd hsm) hso (by unfold scanBound; omega) (strKind_is _ _ _ _) rfl ?_)
          intro h5 so' F5 N5 hso'
          refine sealG fun GG14 hGG14 => ?_
          obtain ⟨n1, hn1, hnk⟩ := List.mem_map.mp hk3
          subst hnk
          obtain ⟨led5, hled5⟩ : ∃ l, l = putA sn so' led₃ := ⟨_, rfl⟩
          have hK5 : Kept [sn] led₃ led5 := by rw [hled5]; exact kept_putA
          have nd5 : (led5.map (·.1)).Nodup := by rw [hled5]; exact nodup_putA S3.nd
          have hs5 : (sn, so') ∈ led5 := by rw [hled5]; exact mem_putA_self hsm
          have hb5 : bnd led5 = bnd led₃ := by rw [hled5]; exact bnd_putA _ _ _
          rw [← hled5] at N5
          clear hled5
          have getN : ∀ {b : Addr} {o : Obj}, (b, o) ∈ news → (b, o) ∈ led5 := fun {b o} hm => hK5.get (S3.keep _ (.tail _ hm)) fun hc => (S3.own b (by simp only [List.cons_append, List.map_cons, List.map_append]; exact .tail _ (List.mem_append_left _ (List.mem_map.mpr ⟨_, hm, rfl⟩)))).2.2.1 (List.mem_singleton.mp hc)
          obtain ⟨nt1, npt1, hinf0⟩ := R.S.info n1 hn1
          have hinf1 := getN hinf0
          have hidt1 := getN (R.S.idt n1 hn1)
          obtain ⟨vs1, ep1, hvs1, hsl0⟩ := R.S.sl n1 hn1
          have hsl1 := getN hsl0
          have hva1 := R.S.at hn1
          have hd5 := getN hdd
          obtain ⟨a1, a2, a3, a4, a5, a6⟩ := S3.apart5
          obtain ⟨epi, hli3⟩ := S3.L.iters
          obtain ⟨vs, ep, hvs, hls3⟩ := S3.L.stack
          refine hGG14 ?_
          have hli5 := hK5.get hli3 (by simp [a3])
          have hls5 := hK5.get hls3 (by simp [a1])
          have hdm5 := hK5.get hdm (by simp [Ne.symm a5])
          repeat' ((fail_if_success (with_reducible show wpAny _ _ (subscriptTail _ _ _ _) _ _ _)); (first | (k_unfold; (try dsimp only)) | (k_end; wrow_close) | ((with_reducible show wpAny _ _ (exec _ _) _ _ { heap := _, gens := _, drawn := _, toks := _ + 1, os := _ }); refine genT ?_; intro __tkT) | walk1 | (dsimp only; walk1) | (leave1; try dsimp only)))
          k_dflt (refine kda_item (knd := PySem.strKind _ _) (by k_asm) hd5 hod (strKind_is _ _ _ _) hva1 ?_)
          repeat' ((fail_if_success (with_reducible show wpAny _ _ (PySem.call (Value.builtin "iter") _ _) _ _ _)); (first | (k_unfold; (try dsimp only)) | (k_end; wrow_close) | ((with_reducible show wpAny _ _ (exec _ _) _ _ { heap := _, gens := _, drawn := _, toks := _ + 1, os := _ }); refine genT ?_; intro __tkT) | walk1 | (dsimp only; walk1) | (leave1; try dsimp only)))
          k_dflt (refine iter_list (by k_asm) (by k_asm) hsl1 ?_)
          intro It h6 F6 N6 l6
          k_lt l6
          repeat' ((fail_if_success (with_reducible show wpAny _ _ (getAttr (Value.ref _) _ true) _ _ _)); (first | (k_unfold; (try dsimp only)) | (k_end; wrow_close) | ((with_reducible show wpAny _ _ (exec _ _) _ _ { heap := _, gens := _, drawn := _, toks := _ + 1, os := _ }); refine genT ?_; intro __tkT) | walk1 | (dsimp only; walk1) | (leave1; try dsimp only)))
          k_dflt (refine next_attr (by k_asm) (by k_asm) (.head _) ?_)
          intro Qa h7 F7 N7 l7
          k_lt l7
          have aI : adr (It, iterObj n1.sl 0) = It := rfl
          have aQ : adr (Qa, nextObj It) = Qa := rfl
          refine sealG fun GG15 hGG15 => ?_
          obtain ⟨led6, hled6⟩ : ∃ l, l = (Qa, nextObj It) :: (It, iterObj n1.sl 0) :: led5 := ⟨_, rfl⟩
          refine hGG15 ?_
          have nd6 : (led6.map (·.1)).Nodup := by
            rw [hled6]
            refine nodup_cons_of (nodup_cons_of nd5 ?_) ?_
            all_goals (simp only [bnd_cons, aI, aQ]; omega)
          have hK6 : Kept [sn] led₃ led6 := by rw [hled6]; exact kept_cons (kept_cons hK5)
          have in6 : ∀ {p : Addr × Obj}, p ∈ led5 → p ∈ led6 := fun hp => by rw [hled6]; exact .tail _ (.tail _ hp)
          have hq6 : (Qa, nextObj It) ∈ led6 := by rw [hled6]; exact .head _
          have hi6 : (It, iterObj n1.sl 0) ∈ led6 := by rw [hled6]; exact .tail _ (.head _)
          have hbQ : bnd led₃ ≤ Qa := by rw [← hb5]; exact l7.2
          have hbI : bnd led₃ ≤ It := by rw [← hb5]; exact l6
          have hli6 := in6 hli5
          have hls6 := in6 hls5
          have hdm6 := in6 hdm5
          have hs6 := in6 hs5
          rw [← hled6] at N7
          clear l7 aI aQ
          repeat' ((fail_if_success (with_reducible show wpAny _ _ (PySem.call (Value.builtin "list.append") _ _) _ _ _)); (first | (k_unfold; (try dsimp only)) | (k_end; wrow_close) | ((with_reducible show wpAny _ _ (exec _ _) _ _ { heap := _, gens := _, drawn := _, toks := _ + 1, os := _ }); refine genT ?_; intro __tkT) | walk1 | (dsimp only; walk1) | (leave1; try dsimp only)))
          have hcl : stk.length ≤ 800 := by rw [List.length_append, List.length_map] at hct; omega
          k_dflt (refine append_K (by k_asm) N7 (upd_putA nd6 hli6) ?_ (by rw [sizeLine_eq, List.size_toArray, List.length_reverse, List.length_map]; omega))
          intro h8 F8 N8
          rw [List.push_toArray] at N8
          have hls8 := mem_putA_ne (d := li) (o := W.listOf (((stk.map fun f => Value.ref f.q).reverse ++ [Value.ref Qa]).toArray) (epi + 1)) hls6 S3.L.lsli
          have hdm8 := mem_putA_ne (d := li) (o := W.listOf (((stk.map fun f => Value.ref f.q).reverse ++ [Value.ref Qa]).toArray) (epi + 1)) hdm6 (Ne.symm a4)
          have nd8 := nodup_putA (d := li) (o := W.listOf (((stk.map fun f => Value.ref f.q).reverse ++ [Value.ref Qa]).toArray) (epi + 1)) nd6
          repeat' ((fail_if_success (with_reducible show wpAny _ _ (PySem.call (Value.builtin "len") _ _) _ _ _)); (first | (k_unfold; (try dsimp only)) | (k_end; wrow_close) | ((with_reducible show wpAny _ _ (exec _ _) _ _ { heap := _, gens := _, drawn := _, toks := _ + 1, os := _ }); refine genT ?_; intro __tkT) | walk1 | (dsimp only; walk1) | (leave1; try dsimp only)))
          k_dflt (refine kst_len N8 hls8 rfl (by rw [strs_len hvs, List.length_reverse, List.length_map]; omega) ?_)
          repeat' ((fail_if_success (with_reducible show wpAny _ _ (setItem _ _ _) _ _ _)); (first | (k_unfold; (try dsimp only)) | (k_end; wrow_close) | ((with_reducible show wpAny _ _ (exec _ _) _ _ { heap := _, gens := _, drawn := _, toks := _ + 1, os := _ }); refine genT ?_; intro __tkT) | walk1 | (dsimp only; walk1) | (leave1; try dsimp only)))
          k_dflt (refine kda_set (knd := PySem.strKind _ _) (by k_asm) N8 (updF_putA nd8 hdm8) hdob (strKind_is _ _ _ _) (by rw [sizeLine_eq, ← List.length_map (f := (·.1)), hkvs, List.length_reverse, List.length_map]; omega) ?_)
          intro h9 od9 F9 N9 hod9
          have nd9 := nodup_putA (d := dn) (o := od9) nd8
          have hls9 := mem_putA_ne (d := dn) (o := od9) hls8 a2
          repeat' ((fail_if_success (with_reducible show wpAny _ _ (PySem.call (Value.builtin "list.append") _ _) _ _ _)); (first | (k_unfold; (try dsimp only)) | (k_end; wrow_close) | ((with_reducible show wpAny _ _ (exec _ _) _ _ { heap := _, gens := _, drawn := _, toks := _ + 1, os := _ }); refine genT ?_; intro __tkT) | walk1 | (dsimp only; walk1) | (leave1; try dsimp only)))
          k_dflt (refine append_K (by k_asm) N9 (upd_putA nd9 hls9) ?_ (by rw [sizeLine_eq, List.size_toArray, strs_len hvs, List.length_reverse, List.length_map]; omega))
          intro h10 F10 N10
          rw [List.push_toArray] at N10
          repeat' ((first | (k_unfold; (try dsimp only)) | (k_end; wrow_close) | ((with_reducible show wpAny _ _ (exec _ _) _ _ { heap := _, gens := _, drawn := _, toks := _ + 1, os := _ }); refine genT ?_; intro __tkT) | walk1 | (dsimp only; walk1) | (leave1; try dsimp only)))
          have hnot : n1.name ∉ stk.map (·.name) ++ fin' := fun h => by rw [(hSf _).mpr h] at hb; cases hb
          have hnk : n1.name ∉ kvs.map (·.1) := by rw [hkvs]; exact fun h => hnot (List.mem_append_left _ (List.mem_reverse.mp h))
          rw [stored_new hnk] at hod9
          have hkl' : kvs.length = stk.length := by rw [← List.length_map (f := (·.1)), hkvs, List.length_reverse, List.length_map]
          have S10 := S3.push (q := Qa) (it := It) hn1 (((hK6.mono (S' := [ls, li, sn, dn]) (by simp)).trans ((kept_putA (d := li)).mono (S' := [ls, li, sn, dn]) (by simp))).trans (((kept_putA (d := dn)).mono (S' := [ls, li, sn, dn]) (by simp)).trans ((kept_putA (d := ls)).mono (S' := [ls, li, sn, dn]) (by simp)))) (nodup_putA nd9)
            ⟨_, ep + 1, strs_snoc hvs n1.name t', mem_putA_self hls9⟩ ⟨_, mem_putA_ne (mem_putA_ne (mem_putA_self hli6) a4) (Ne.symm S3.L.lsli)⟩
            ⟨so', _, _, hso', fun x => by
                simp only [Bool.or_eq_true, decide_eq_true_eq]
                rw [hSf x]
                constructor
                · rintro (h | h)
                  · exact .inr h
                  · exact .inl h
                · rintro (h | h)
                  · exact .inr h
                  · exact .inl h, by rw [hb]; simp only [Bool.false_eq_true, if_false]; omega, mem_putA_ne (mem_putA_ne (mem_putA_ne hs6 (Ne.symm a3)) a5) (Ne.symm a1)⟩
            ⟨od9, _, hod9, mem_putA_ne (mem_putA_self hdm8) (Ne.symm a2), by rw [List.map_append, hkvs]; rfl, dict_grow (by rw [hkl', strs_len hvs, List.length_reverse, List.length_map]) hkv2⟩
            (mem_putA_ne (mem_putA_ne (mem_putA_ne hq6 (ne_at nd6 hq6 hli6 "method-wrapper" "list" rfl rfl (by decide))) (ne_at nd6 hq6 hdm6 "method-wrapper" "dict" rfl (dict_cls hdob) (by decide))) (ne_at nd6 hq6 hls6 "method-wrapper" "list" rfl rfl (by decide)))
            (mem_putA_ne (mem_putA_ne (mem_putA_ne hi6 (ne_at nd6 hi6 hli6 "list_iterator" "list" rfl rfl (by decide))) (ne_at nd6 hi6 hdm6 "list_iterator" "dict" rfl (dict_cls hdob) (by decide))) (ne_at nd6 hi6 hls6 "list_iterator" "list" rfl rfl (by decide)))
            hbQ hbI
          rw [hMid]
          refine .inl ⟨rfl, _, _, Value.str n1.name t', _, _, rfl, F10, N10, S10, D3.push (by rw [← hstn]; exact hnot) hk3, calm_push U3, ?_, taken_push⟩
          rcases hc3 with h | h | h
          · exact .inl h
          · exact .inr (.tail _ h)
          · exact .inr (by rw [h]; exact .head _)
      case after =>
        intro f s' hm
        rw [hMid] at hm
        rcases hm with ⟨rfl, h9, tk9, v9, led9, stk9, rfl, F9, N9, S9, D9, C9, hc9, ht9⟩ | ⟨v, rfl, hq⟩
        rotate_left
        · exact hq
        repeat' ((fail_if_success (with_reducible show wpAny _ _ (exec (Stmt.While _ _ _ _) _) _ _ _)); (first | (k_unfold; (try dsimp only)) | (k_end; wrow_close) | ((with_reducible show wpAny _ _ (exec _ _) _ _ { heap := _, gens := _, drawn := _, toks := _ + 1, os := _ }); refine genT ?_; intro __tkT) | walk1 | (dsimp only; walk1) | (leave1; try dsimp only)))
        clear hMid S3 D3 U3 hc3 hstd F₃ N₃ Mid
        let JJ3 : Nat → (Str → Option Value) → List (Addr × Obj) → Prop := fun n m₅ led₅ => ∃ v5 fin5 stk5, m₅ = (fun y => if y = Str.ofString "node" then some v5 else (fun y => if y = Str.ofString "node2stacki" then some (Value.ref dn) else if y = Str.ofString "seen" then some (Value.ref sn) else if y = Str.ofString "itstack" then some (Value.ref li) else if y = Str.ofString "stack" then some (Value.ref ls) else if y = Str.ofString "n2i" then some (Value.ref d) else List.lookup y [(Str.ofString "self", Value.ref σ)].reverse) y) ∧ SI w nds ((I, io) :: news) ((L, oL) :: frs) ls li sn dn led₅ stk5 fin5 ∧ DInv sc (nds.map (·.name)) fin5 (stk5.map (·.toFm)) ∧ Calm sc fin5 (stk5.map (·.toFm)) ∧ (k ∈ fin5 ∨ k ∈ stk5.map (·.name)) ∧ (∀ x ∈ (nds.map (·.name)).take i, x ∈ fin5) ∧ taken sc fin5 (stk5.map (·.toFm)) = taken sc fin' (stk.map (·.toFm)) ∧ n = stk5.length
        k_dflt refine while_led (n₀ := stk9.length) JJ3 (by k_asm) (by k_asm) ⟨v9, fin', stk9, rfl, S9, D9, C9, hc9, hf3, ht9, rfl⟩ ?_
        clear F9 N9 S9 D9 C9 hc9 ht9 hf3
        intro n5 m₅ led₅ h₅ tk₅ F₅ N₅ hJ₅
        refine sealG fun GG16 hGG16 => ?_
        obtain ⟨v5, fin5, stk5, rfl, S5, D5, C5, hc5, hf5, ht5, rfl⟩ := hJ₅
        refine hGG16 ?_
        repeat' ((fail_if_success (with_reducible show wpAny _ _ (truthy _) _ _ _)); (first | (k_unfold; (try dsimp only)) | (k_end; wrow_close) | ((with_reducible show wpAny _ _ (exec _ _) _ _ { heap := _, gens := _, drawn := _, toks := _ + 1, os := _ }); refine genT ?_; intro __tkT) | walk1 | (dsimp only; walk1) | (leave1; try dsimp only)))
        refine sealG fun GG17 hGG17 => ?_
        obtain ⟨vs5, ep5, hvs5, hls5⟩ := S5.L.stack
        refine hGG17 ?_
        have hct5 := S5.count D5
        rw [List.length_map, List.length_append, List.length_map] at hct5
        have hvl5 := strs_len hvs5
        rw [List.length_reverse, List.length_map] at hvl5
        k_dflt (refine wpAny_truthy_list (News.isList N₅ hls5) (by rw [List.size_toArray, hvl5]; omega) ?_)
        cases stk5 with
        | nil =>
          cases hvs5
          repeat' ((first | (k_unfold; (try dsimp only)) | (k_end; wrow_close) | ((with_reducible show wpAny _ _ (exec _ _) _ _ { heap := _, gens := _, drawn := _, toks := _ + 1, os := _ }); refine genT ?_; intro __tkT) | walk1 | (dsimp only; walk1) | (leave1; try dsimp only)))
          dsimp only [WhileStep2]
          repeat' ((first | (k_unfold; (try dsimp only)) | (k_end; wrow_close) | ((with_reducible show wpAny _ _ (exec _ _) _ _ { heap := _, gens := _, drawn := _, toks := _ + 1, os := _ }); refine genT ?_; intro __tkT) | walk1 | (dsimp only; walk1) | (leave1; try dsimp only)))
          have hnI : ∀ p ∈ news, p.1 ≠ I := fun p hp e => (List.nodup_cons.mp hnd2).1 (List.mem_map.mpr ⟨p, S1.keep p hp, e⟩)
          have hfI : I ∉ ((L, oL) :: frs).map (·.1) := fun hm => by
            obtain ⟨g1, gu1, gu2⟩ := S1.frm
            rw [← sameUp_fst gu1] at hm
            obtain ⟨p, hp, e⟩ := List.mem_map.mp hm
            exact (List.nodup_cons.mp hnd2).1 (List.mem_map.mpr ⟨p, gu2 p hp, e⟩)
          refine TurnEnd.go (J := fun m₁ led₁ => SameBut1 (Str.ofString "node") m₁ (fun y => if y = Str.ofString "node2stacki" then some (Value.ref dn) else if y = Str.ofString "seen" then some (Value.ref sn) else if y = Str.ofString "itstack" then some (Value.ref li) else if y = Str.ofString "stack" then some (Value.ref ls) else if y = Str.ofString "n2i" then some (Value.ref d) else List.lookup y [(Str.ofString "self", Value.ref σ)].reverse) ∧ ∃ fin, SI w nds news ((L, oL) :: frs) ls li sn dn led₁ [] fin ∧ DInv sc (nds.map (·.name)) fin [] ∧ ∀ x ∈ (nds.map (·.name)).take (i + 1), x ∈ fin) (m' := fun y => if y = Str.ofString "node" then some v5 else (fun y => if y = Str.ofString "node2stacki" then some (Value.ref dn) else if y = Str.ofString "seen" then some (Value.ref sn) else if y = Str.ofString "itstack" then some (Value.ref li) else if y = Str.ofString "stack" then some (Value.ref ls) else if y = Str.ofString "n2i" then some (Value.ref d) else List.lookup y [(Str.ofString "self", Value.ref σ)].reverse) y) (by k_asm) (Mine.News.sub (by k_asm) (dropA_sub (S5.keep _ (.head _)))) (nodup_dropA S5.nd) (fun p hp => by rw [List.mem_singleton.mp hp]; exact mem_dropA.mpr ⟨S5.keep _ (.tail _ hdd), hnI _ hdd⟩) ⟨SameBut1.set, fin5, S5.drop hnI hfI, D5, fun x hx => ?_⟩
          rcases (take_mem hki).mp hx with hx | rfl
          · exact hf5 x hx
          · rcases hc5 with h | h
            · exact h
            · cases h
        | cons f r =>
          have hne5 : (!vs5.toArray.isEmpty) = true := by
            cases vs5 with
            | nil => simp at hvl5
            | cons => rfl
          rw [hne5]
          refine sealG fun GG18 hGG18 => ?_
          obtain ⟨epi5, hli5⟩ := S5.L.iters
          obtain ⟨n5, hn5, hnm5, hit5⟩ := S5.L.iter f (.head _)
          have hq5 := S5.L.wrap f (.head _)
          obtain ⟨vs6, ep6, hvs6, hsl6⟩ := R.S.sl n5 hn5
          refine hGG18 ?_
          have hsl5 := S5.keep _ (.tail _ hsl6)
          rw [List.map_cons, List.reverse_cons] at hli5
          repeat' ((fail_if_success (with_reducible show wpAny _ _ (subscriptTail _ _ _ _) _ _ _)); (first | (k_unfold; (try dsimp only)) | (k_end; wrow_close) | ((with_reducible show wpAny _ _ (exec _ _) _ _ { heap := _, gens := _, drawn := _, toks := _ + 1, os := _ }); refine genT ?_; intro __tkT) | walk1 | (dsimp only; walk1) | (leave1; try dsimp only)))
          k_dflt (refine kim_back N₅ hli5 rfl rfl (by decide) (by simp only [List.length_append, List.length_cons, List.length_nil]; omega) (by decide) (x := Value.ref f.q) (by rw [show ((-1 : Int) + (((List.map (fun f => Value.ref f.q) r).reverse ++ [Value.ref f.q]).length : Int)).toNat = (List.map (fun f => Value.ref f.q) r).reverse.length by simp only [List.length_append, List.length_cons, List.length_nil]; omega]; simp) ?_)
          repeat' ((fail_if_success (with_reducible show wpAny _ _ (callWith _ _ _ _ _) _ _ _)); (first | (k_unfold; (try dsimp only)) | (k_end; wrow_close) | ((with_reducible show wpAny _ _ (exec _ _) _ _ { heap := _, gens := _, drawn := _, toks := _ + 1, os := _ }); refine genT ?_; intro __tkT) | walk1 | (dsimp only; walk1) | (leave1; try dsimp only)))
          k_dflt (refine callWith_wrap0 (N₅ _ hq5).1 ?_)
          cases hx6 : vs6.toArray[f.i]? with
          | some x6 =>
            k_dflt (refine next_itemL (by k_asm) (by k_asm) S5.nd hq5 hit5 hsl5 hx6 ?_)
            intro h6 F6 N6
            refine sealG fun GG19 hGG19 => ?_
            obtain ⟨y6, t6, hy6, rfl⟩ := strs_get hvs6 (by simpa using hx6)
            refine hGG19 ?_
            repeat' ((first | (k_unfold; (try dsimp only)) | (k_end; wrow_close) | ((with_reducible show wpAny _ _ (exec _ _) _ _ { heap := _, gens := _, drawn := _, toks := _ + 1, os := _ }); refine genT ?_; intro __tkT) | walk1 | (dsimp only; walk1) | (leave1; try dsimp only)))
            dsimp only [WhileStep2]
            repeat' ((first | (k_unfold; (try dsimp only)) | (k_end; wrow_close) | ((with_reducible show wpAny _ _ (exec _ _) _ _ { heap := _, gens := _, drawn := _, toks := _ + 1, os := _ }); refine genT ?_; intro __tkT) | walk1 | (dsimp only; walk1) | (leave1; try dsimp only)))
            have S6 := S5.next hn5 hnm5 kept_putA (nodup_putA S5.nd) (mem_putA_self (o := iterObj n5.sl (f.i + 1)) hit5)
            have U6 := under_next (f := f.toFm) C5 (by rw [← hnm5]; exact hy6)
            have D6 : DInv sc (nds.map (·.name)) fin5 (⟨f.name, f.i + 1⟩ :: r.map (·.toFm)) := DInv.step (f := f.toFm) D5
            have hle6 := taken_le D6 (under_le U6)
            have htn6 : taken sc fin5 (⟨f.name, f.i + 1⟩ :: r.map (·.toFm)) = taken sc fin5 ((f :: r).map (·.toFm)) + 1 := taken_next (f := f.toFm)
            have hfn : f.name ∈ nds.map (·.name) := by rw [← hnm5]; exact List.mem_map_of_mem hn5
            rename Fr h₀ _ _ _ => F7
            have F8 := F7
            rw [map_set (SameBut1.set (x := Str.ofString "node") (v := some v5))] at F8
            refine WhileStep2.go F8 (by k_asm) (n' := total sc (nds.map (·.name)) - taken sc fin5 (⟨f.name, f.i + 1⟩ :: r.map (·.toFm))) (by rw [hn3]; omega) ⟨y6, t6, fin5, _, rfl, S6, D6, U6, hscn _ hfn _ (by rw [← hnm5]; exact List.mem_of_getElem? hy6), ?_, hf5, rfl⟩
            rcases hc5 with h | h
            · exact .inl h
            · exact .inr (.inl h)
          | none =>
            k_dflt (refine next_endL rfl (by k_asm) (by k_asm) S5.nd hq5 hit5 hsl5 hx6 ?_)
            intro h6 h7 e7 F6 N6 hx7
            repeat' ((fail_if_success (with_reducible show wpAny _ _ (noteFrame _ _) _ _ _)); (first | (k_unfold; (try dsimp only)) | (k_end; wrow_close) | ((with_reducible show wpAny _ _ (exec _ _) _ _ { heap := _, gens := _, drawn := _, toks := _ + 1, os := _ }); refine genT ?_; intro __tkT) | walk1 | (dsimp only; walk1) | (leave1; try dsimp only)))
            refine sealG fun GG20 hGG20 => ?_
            obtain ⟨f1, gu1, gu2⟩ := S5.frm
            refine hGG20 ?_
            have hff := sameUp_fst gu1
            have nd6 := nodup_putA (d := f.it) (o := ({ cls := .type "list_iterator", data := .fields #[.none, .int f.i 0] } : Obj)) S5.nd
            have hg6 : ∀ p ∈ f1, p ∈ putA f.it ({ cls := .type "list_iterator", data := .fields #[.none, .int f.i 0] } : Obj) led₅ := fun p hp => mem_putA_ne (b := p.1) (x := p.2) (gu2 p hp) ((S5.own p.1 (by rw [List.map_append, ← hff]; exact List.mem_append_right _ (List.mem_map_of_mem hp))).2.2.2.2 f (.head _)).2
            have hndf1 : (f1.map (·.1)).Nodup := by rw [hff]; exact hndF
            k_dflt (refine catch_T rfl (Fs'.up gu1) hx7 F6 (Mine.News.sub N6 fun p hp => (split_led nd6 hg6).mp hp) (split_nodup nd6 hndf1) T ?_)
            intro h8 frs8 u8 Fs8 F8 N8
            refine sealG fun GG21 hGG21 => ?_
            obtain ⟨nf, hnf⟩ : ∃ l, l = putA f.it ({ cls := .type "list_iterator", data := .fields #[.none, .int f.i 0] } : Obj) led₅ := ⟨_, rfl⟩
            rw [← hnf] at N8 nd6 hg6
            have hK8 : Kept (f.it :: ls :: li :: dn :: ((L, oL) :: frs).map (·.1)) led₅ (dropL (f1.map (·.1)) nf ++ frs8) := fun p hp hn => by
              refine List.mem_append_left _ (mem_dropL.mpr ⟨?_, fun hm => hn ?_⟩)
              · rw [hnf]; exact mem_putA_ne (b := p.1) (x := p.2) hp fun e => hn (by rw [e]; exact .head _)
              · rw [hff] at hm; exact .tail _ (.tail _ (.tail _ (.tail _ hm)))
            have nd8 : ((dropL (f1.map (·.1)) nf ++ frs8).map (·.1)).Nodup := by
              have h := split_nodup nd6 hndf1
              rw [List.map_append] at h ⊢
              rw [sameUp_fst u8]; exact h
            obtain ⟨a1, a2, a3, a4, a5, a6⟩ := S5.apart5
            obtain ⟨c1, c2, c3, c4, c5', c6, c7, c8, c9⟩ := a6 f (.head _)
            have frne : ∀ b ∈ f1.map (·.1), b ≠ ls ∧ b ≠ li ∧ b ≠ dn := fun b hb => by
              rw [hff] at hb
              obtain ⟨x1, x2, x3, x4, _⟩ := S5.own b (by rw [List.map_append]; exact List.mem_append_right _ hb)
              exact ⟨x1, x2, x4⟩
            have get8 : ∀ {b : Addr} {o : Obj}, (b, o) ∈ led₅ → b ≠ f.it → b ∉ f1.map (·.1) → (b, o) ∈ dropL (f1.map (·.1)) nf ++ frs8 := fun hm h1 h2 => List.mem_append_left _ (mem_dropL.mpr ⟨by rw [hnf]; exact mem_putA_ne hm h1, h2⟩)
            have hls8 := get8 hls5 (Ne.symm c5') fun hm => (frne _ hm).1 rfl
            have hli8 := get8 hli5 (Ne.symm c6) fun hm => (frne _ hm).2.1 rfl
            obtain ⟨od8, kvs8, hod8, hdm5, hkvs8, hkv8⟩ := S5.L.dict
            have hdm8 := get8 hdm5 (Ne.symm c8) fun hm => (frne _ hm).2.2 rfl
            have hu8 : ∀ p ∈ frs8, p ∈ dropL (f1.map (·.1)) nf ++ frs8 := fun p hp => List.mem_append_right _ hp
            have huu8 := gu1.trans u8
            obtain ⟨led8, hled8⟩ : ∃ l, l = dropL (f1.map (·.1)) nf ++ frs8 := ⟨_, rfl⟩
            rw [← hled8] at N8 hK8 nd8 hls8 hli8 hdm8 hu8
            clear hled8 get8 hnf
            rw [List.map_cons, List.reverse_cons] at hvs5 hkvs8
            obtain ⟨us8, yv8, rfl, hus8, t8, rfl⟩ := strs_split hvs5
            have hvl8 := strs_len hus8
            rw [List.length_reverse, List.length_map] at hvl8
            have hst8 : (((f :: r).map (·.name))).Nodup := by
              have := (List.nodup_append.mp D5.nodup).1
              rw [List.map_map] at this; exact this
            have hst9 : ((r.map (·.name)).reverse ++ [f.name]).Nodup := by rw [← List.reverse_cons]; exact (List.reverse_perm _).symm.nodup hst8
            obtain ⟨w1, w2, w3⟩ := without_last hkvs8 hst9 hkv8
            refine hGG21 ?_
            repeat' ((fail_if_success (with_reducible show wpAny _ _ (PySem.call (Value.builtin "list.pop") _ _) _ _ _)); (first | (k_unfold; (try dsimp only)) | (k_end; wrow_close) | ((with_reducible show wpAny _ _ (exec _ _) _ _ { heap := _, gens := _, drawn := _, toks := _ + 1, os := _ }); refine genT ?_; intro __tkT) | walk1 | (dsimp only; walk1) | (leave1; try dsimp only)))
            k_dflt (refine pop_led (by k_asm) N8 nd8 hls8 (by rw [sizeLine_eq, List.length_append, hvl8, List.length_singleton]; simp only [List.length_cons] at hct5; omega) ?_)
            intro h9 F9 N9
            repeat' ((fail_if_success (with_reducible show wpAny _ _ (delItem _ _) _ _ _)); (first | (k_unfold; (try dsimp only)) | (k_end; wrow_close) | ((with_reducible show wpAny _ _ (exec _ _) _ _ { heap := _, gens := _, drawn := _, toks := _ + 1, os := _ }); refine genT ?_; intro __tkT) | walk1 | (dsimp only; walk1) | (leave1; try dsimp only)))
            have nd9 := nodup_putA (d := ls) (o := W.listOf us8.toArray (ep5 + 1)) nd8
            have hdm9 := mem_putA_ne (d := ls) (o := W.listOf us8.toArray (ep5 + 1)) hdm8 (Ne.symm a2)
            have hli9 := mem_putA_ne (d := ls) (o := W.listOf us8.toArray (ep5 + 1)) hli8 (Ne.symm S5.L.lsli)
            k_dflt (refine del_led (by k_asm) N9 (updF_putA nd9 hdm9) hod8 (strKind_is _ _ _ _) w3 (by rw [sizeLine_eq, ← List.length_map (f := (·.1)), hkvs8, List.length_append, List.length_reverse, List.length_map, List.length_singleton]; simp only [List.length_cons] at hct5; omega) ?_)
            intro h10 od10 F10 N10 hod10
            have nd10 := nodup_putA (d := dn) (o := od10) nd9
            have hli10 := mem_putA_ne (d := dn) (o := od10) hli9 a4
            repeat' ((fail_if_success (with_reducible show wpAny _ _ (PySem.call (Value.builtin "list.pop") _ _) _ _ _)); (first | (k_unfold; (try dsimp only)) | (k_end; wrow_close) | ((with_reducible show wpAny _ _ (exec _ _) _ _ { heap := _, gens := _, drawn := _, toks := _ + 1, os := _ }); refine genT ?_; intro __tkT) | walk1 | (dsimp only; walk1) | (leave1; try dsimp only)))
            k_dflt (refine pop_led (by k_asm) N10 nd10 hli10 (by rw [sizeLine_eq, List.length_append, List.length_reverse, List.length_map, List.length_singleton]; simp only [List.length_cons] at hct5; omega) ?_)
            intro h11 F11 N11
            have hls11 : (ls, W.listOf us8.toArray (ep5 + 1)) ∈ putA li (W.listOf ((r.map fun f => Value.ref f.q).reverse).toArray (epi5 + 1)) (putA dn od10 (putA ls (W.listOf us8.toArray (ep5 + 1)) led8)) := mem_putA_ne (mem_putA_ne (mem_putA_self hls8) a2) S5.L.lsli
            have S11 := S5.pop (fun p hp => by
                rcases List.mem_cons.mp hp with rfl | hp
                · exact fun hm => by
                    obtain ⟨g1, gu1', gu2'⟩ := S1.frm
                    rw [← sameUp_fst gu1'] at hm
                    obtain ⟨p, hp, e⟩ := List.mem_map.mp hm
                    exact (List.nodup_cons.mp hnd2).1 (List.mem_map.mpr ⟨p, gu2' p hp, e⟩)
                · exact hapN p hp)
              ((hK8.trans ((kept_putA (d := ls) (o := W.listOf us8.toArray (ep5 + 1))).mono (by simp))).trans (((kept_putA (d := dn) (o := od10)).mono (by simp)).trans ((kept_putA (d := li) (o := W.listOf ((r.map fun f => Value.ref f.q).reverse).toArray (epi5 + 1))).mono (by simp))))
              (nodup_putA nd10) ⟨us8, ep5 + 1, hus8, hls11⟩ ⟨epi5 + 1, mem_putA_self hli10⟩ ⟨od10, _, hod10, mem_putA_ne (mem_putA_self hdm9) (Ne.symm a4), w1, w2⟩
              ⟨frs8, huu8, fun p hp => by
                have hx := S5.own p.1 (by rw [List.map_append, ← sameUp_fst huu8]; exact List.mem_append_right _ (List.mem_map_of_mem hp))
                exact mem_putA_ne (b := p.1) (x := p.2) (mem_putA_ne (b := p.1) (x := p.2) (mem_putA_ne (b := p.1) (x := p.2) (hu8 p hp) hx.1) hx.2.2.2.1) hx.2.1⟩
            have hnx : (sc f.name)[f.i]? = none := by
              rw [← hnm5]
              rw [List.getElem?_eq_none_iff, ← strs_len hvs6]
              simpa using hx6
            refine sealG fun GG22 hGG22 => ?_
            obtain ⟨P1, P2⟩ := calm_pop (f := f.toFm) C5 hnx
            refine hGG22 ?_
            repeat' ((first | (k_unfold; (try dsimp only)) | (k_end; wrow_close) | ((with_reducible show wpAny _ _ (exec _ _) _ _ { heap := _, gens := _, drawn := _, toks := _ + 1, os := _ }); refine genT ?_; intro __tkT) | walk1 | (dsimp only; walk1) | (leave1; try dsimp only)))
            refine WhileStep2.go (by k_asm) (by k_asm) (n' := r.length) (Nat.lt_succ_self _) ⟨v5, fin5 ++ [f.name], r, rfl, S11, DInv.pop (f := f.toFm) D5 P2, P1, ?_, fun x hx => List.mem_append_left _ (hf5 x hx), ?_, rfl⟩
            · rcases hc5 with h | h
              · exact .inl (List.mem_append_left _ h)
              · rcases List.mem_cons.mp h with h | h
                · exact .inl (List.mem_append_right _ (by rw [h]; exact .head _))
                · exact .inr h
            · rw [← ht5]; exact taken_pop (f := f.toFm) C5 hnx
end

end
section
open PySem PySem.W PyProof.Rows PySem.Spec PySem.Calls PyProof.Rows.TI
set_option maxRecDepth 100000
structure NewV (h h' : Heap) (e : Addr) (cls : Value) : Prop where
  keeps : ∀ b o, h.get? b = some o → h'.get? b = some o
  new : h.get? e = none
  there : ∃ ob vs a0, h'.get? e = some ob ∧ ob.cls = cls ∧ ob.data = .fields vs ∧ vs[0]? = some a0 ∧ vs[1]? = some .none
theorem NewV.of {h h' : Heap} {e : Addr} {X : String} (x : Heap.NewExc h h' e X) : NewV h h' e (.type X) :=
  ⟨x.keeps, x.new, by obtain ⟨ob, t, he, hc, hd⟩ := x.there; exact ⟨ob, _, t, he, hc, hd, rfl, rfl⟩⟩
theorem NewV.of' {h h' : Heap} {e : Addr} {cls : Value} {args : List Value} (x : Heap.MadeExcOf h h' e cls args) : NewV h h' e cls :=
  ⟨x.keeps, x.new, by obtain ⟨t, he, _, _⟩ := x.there; exact ⟨_, _, _, he, rfl, rfl, rfl, rfl⟩⟩
structure HV (B : Heap) (l : List Env) (fs : List (Addr × Obj)) (e : Addr) (cls a0 fl : Value) (h : Heap) : Prop where
  stays : B.StaysIn h
  new : B.get? e = none
  tr : h.TracedAtW B e cls a0 fl
  frs : ∀ q ∈ fs, h.get? q.1 = some q.2 ∧ B.get? q.1 = none
  Fs : Frs l fs
section
variable {P : Program} {w : World} {A : Around} {E : Value → Shared → Prop} {s' : Shared} {B h : Heap} {l : List Env} {env : Env} {fs : List (Addr × Obj)} {L e : Addr} {cls a0 fl : Value} {Q : Unit → Shared → Prop} {M : Model}
theorem up_of {h h' : Heap} (Fs : Frs l fs) (hf : ∀ q ∈ fs, h.get? q.1 = some q.2) (k : ∀ b o, h.get? b = some o → (∀ vs, o.data ≠ .fields vs) → ∃ sl, h'.get? b = some { o with slots := sl }) : ∃ fs', SameUp fs fs' ∧ ∀ q ∈ fs', h'.get? q.1 = some q.2 :=
  sameUp_of fun p hp => k p.1 p.2 (hf p hp) fun vs q => by
    obtain ⟨es, ep, hd⟩ := Fs.dict p hp
    rw [hd] at q; cases q
theorem frs_none {fs' : List (Addr × Obj)} (hf : ∀ q ∈ fs, B.get? q.1 = none) (u : SameUp fs fs') : ∀ q ∈ fs', B.get? q.1 = none := fun q hq => by
  obtain ⟨p, hp, e⟩ := u.fwd q hq
  rw [e]; exact hf p hp
theorem note_newV (hfr : A.frames = some (env :: l)) (hf : env.frame = some L) (Fs : Frs (env :: l) fs) (hfs : ∀ q ∈ fs, h.get? q.1 = some q.2) (hx : NewV h s'.heap e cls) (hB : B = PyProof.Rows.TI.gone h (fs.map (·.1)))
    (k : ∀ h' fs' a0, SameUp fs fs' → HV B (env :: l) fs' e cls a0 (rawInt L) h' → Q () { s' with heap := h' }) : wpAny M A (noteFrame (.ref e) env) Q E s' := by
  obtain ⟨ob, vs, a0, he, hcls, hd, h0, h1⟩ := hx.there
  have hsz : 1 < vs.size := (Array.getElem?_eq_some_iff.mp h1).1
  have hfs' : ∀ q ∈ fs, s'.heap.get? q.1 = some q.2 ∧ B.get? q.1 = none := fun q hq => ⟨hx.keeps _ _ (hfs q hq), by rw [hB]; exact gone_none (List.mem_map_of_mem hq)⟩
  have hff := Fs.fun hfs'
  have hst : B.StaysIn s'.heap := fun b o hb => by rw [hB] at hb; exact hx.keeps b o (gone_some hb).2
  have hen : B.get? e = none := by
    rw [hB]
    cases hq : (PyProof.Rows.TI.gone h (fs.map (·.1))).get? e with
    | none => rfl
    | some o => have := (gone_some hq).2; rw [hx.new] at this; cases this
  unfold noteFrame
  simp only [hf]
  refine wpAny_bind (wpAny_field he hd h1 ?_)
  rw [if_neg (by decide)]
  refine wpAny_entryW (a0 := a0) hfr hff hf he hst hen hd hsz h0 fun h' hN => ?_
  obtain ⟨k1, k2, k3, k4⟩ := hN
  rw [hcls] at k3
  obtain ⟨fs', u, hfs''⟩ := up_of Fs (fun q hq => (hfs' q hq).1) k4
  exact k h' fs' a0 u ⟨k1, hen, k3, fun q hq => ⟨hfs'' q hq, frs_none (fun q hq => (hfs' q hq).2) u q hq⟩, Fs.up u⟩
theorem leave_newV {o : Obj} (hfr : A.frames = some (env :: l)) (hf : env.frame = some L) (Fs : Frs (env :: l) ((L, o) :: fs)) (hfs : ∀ q ∈ (L, o) :: fs, h.get? q.1 = some q.2) (hx : NewV h s'.heap e cls) (hB : B = PyProof.Rows.TI.gone h (((L, o) :: fs).map (·.1)))
    (k : ∀ h' fs' a0, SameUp fs fs' → HV B l fs' e cls a0 .none h' → Q () { s' with heap := h' }) : wpAny M A (leaving env (.ref e)) Q E s' := by
  obtain ⟨ob, vs, a0, he, hcls, hd, h0, h1⟩ := hx.there
  have hfs' : ∀ q ∈ (L, o) :: fs, s'.heap.get? q.1 = some q.2 ∧ B.get? q.1 = none := fun q hq => ⟨hx.keeps _ _ (hfs q hq), by rw [hB]; exact gone_none (List.mem_map_of_mem hq)⟩
  have hff := Fs.fun hfs'
  have hst : B.StaysIn s'.heap := fun b o' hb => by rw [hB] at hb; exact hx.keeps b o' (gone_some hb).2
  have hen : B.get? e = none := by
    rw [hB]
    cases hq : (PyProof.Rows.TI.gone h (((L, o) :: fs).map (·.1))).get? e with
    | none => rfl
    | some o => have := (gone_some hq).2; rw [hx.new] at this; cases this
  refine wpAny_leaving_firstW (a0 := a0) hfr hff hf he hst hen hd h1 h0 fun h' hN => ?_
  obtain ⟨k1, k2, k3, k4⟩ := hN
  rw [hcls] at k3
  obtain ⟨fs', u, hfs''⟩ := up_of Fs.2.2.2 (fun q hq => (hfs' q (.tail _ hq)).1) k4
  exact k h' fs' a0 u ⟨k1, hen, k3.at, fun q hq => ⟨hfs'' q hq, frs_none (fun q hq => (hfs' q (.tail _ hq)).2) u q hq⟩, Fs.2.2.2.up u⟩
theorem note_onV (H : HV B (env :: l) fs e cls a0 .none s'.heap) (hfr : A.frames = some (env :: l)) (hf : env.frame = some L)
    (k : ∀ h' fs', SameUp fs fs' → HV B (env :: l) fs' e cls a0 (rawInt L) h' → Q () { s' with heap := h' }) : wpAny M A (noteFrame (.ref e) env) Q E s' := by
  refine wpAny_noteFrame_onW hfr (H.Fs.fun H.frs) hf H.tr H.stays H.new fun h' hN => ?_
  obtain ⟨k1, k2, k3, k4⟩ := hN
  obtain ⟨fs', u, hfs''⟩ := up_of H.Fs (fun q hq => (H.frs q hq).1) k4
  exact k h' fs' u ⟨k1, H.new, k3, fun q hq => ⟨hfs'' q hq, frs_none (fun q hq => (H.frs q hq).2) u q hq⟩, H.Fs.up u⟩
theorem landV (H : HV B l fs e cls a0 fl s'.heap) (k : ∀ h', HV B l fs e cls a0 .none h' → Q () { s' with heap := h' }) : wpAny M A (setFlight (.ref e) none) Q E s' := by
  refine wpAny_setFlight_noneW H.stays (H.Fs.fun H.frs) H.tr fun h' k1 k2 k3 k4 => k h' ⟨k1, H.new, k3.at, fun q hq => ⟨?_, (H.frs q hq).2⟩, H.Fs⟩
  refine k4 _ _ (H.frs q hq).1 fun vs c => ?_
  obtain ⟨es, ep, hd⟩ := H.Fs.dict q hq
  rw [hd] at c; cases c
theorem handle_hit {t : Expr} {b₀ : Stmt} {suite : List Stmt} {pos : Pos} {rest : List ExceptHandler} {Q : Flow → Shared → Prop} {s : Shared} {E' : Value → Shared → Prop} (hE' : E' = notedBy (model P w) (A.mark (some (.ref e))) env (cameBackBy (model P w) A env E))
    (h : wpAny (model P w) (A.mark (some (.ref e))) (eval t env) (fun c s₁ => wpAny (model P w) (A.mark (some (.ref e))) (excMatches (.ref e) c) (fun b s₂ => b = true ∧
      wpAny (model P w) (A.mark (some (.ref e))) (setFlight (.ref e) none) (fun _ s₃ => wpAny (model P w) (A.mark (some (.ref e))) (execs (b₀ :: suite) env) Q E' s₃) E' s₂) E' s₁) E' s) :
    wpAny (model P w) A (handleBy (.ref e) env (.ExceptHandler (some t) none (b₀ :: suite) pos :: rest)) Q E s := by
  subst hE'
  refine wpAny_handleBy_cons (codeAny_handlers_test (wpAny_mono h (fun c s₁ h₁ => wpAny_mono h₁ (fun b s₂ h₂ => ?_) fun _ _ x => x) fun _ _ x => x)) (by intro q; cases q)
  obtain ⟨rfl, hk⟩ := h₂
  exact codeAny_handlers_suite hk
end

end
section
open PySem PySem.W PyProof.Rows PySem.Spec PySem.Calls PyProof.Rows.TI
set_option maxRecDepth 100000
section
variable {P : Program} {w : World} {A₀ : Around} {E : Value → Shared → Prop} {s' : Shared} {hb h B : Heap} {L a e : Addr} {m : Str → Option Value} {name : Str} {scope : Scope} {cd cls a0 fl : Value} {new frs fs : List (Addr × Obj)} {l : List Env}
  {b₀ : Stmt} {suite : List Stmt} {pos : Pos} {t : Expr} {rest : List ExceptHandler} {Q : Flow → Shared → Prop} {p : Program} {loose : List Str} {mg mb : Str → Option Value} {K : Frag}
theorem HV.keeps {h h' : Heap} (H : HV B l fs e cls a0 fl h) (k : ∀ b o, h.get? b = some o → h'.get? b = some o) : HV B l fs e cls a0 fl h' := by
  obtain ⟨oe, vs, T, oT, ts, he, hcl, hd, h1, hnT, hTe, hT, hdT, h3⟩ := H.tr
  exact ⟨fun b o hb => k _ _ (H.stays b o hb), H.new, ⟨oe, vs, T, oT, ts, k _ _ he, hcl, hd, h1, hnT, hTe, k _ _ hT, hdT, h3⟩, fun q hq => ⟨k _ _ (H.frs q hq).1, (H.frs q hq).2⟩, H.Fs⟩
theorem HV.ty {M : Model} (H : HV B l fs e cls a0 fl h) : Looks M h (typeOf (.ref e)) cls := by
  obtain ⟨oe, vs, T, oT, ts, he, hcl, _⟩ := H.tr
  obtain ⟨hc, _⟩ := hcl
  subst hc
  exact (Looks.ld he).andThen .now
theorem HV.back {env : Env} {oL : Obj} {h : Heap} (H : HV B (env :: l) fs e cls a0 fl h) (C : TI.Caller hb L m oL) (SU : SameUp ((L, oL) :: frs) fs) (hB : ∀ b o, hb.get? b = some o → B.get? b = some o) (hN : ∀ p ∈ new, B.get? p.1 = some p.2 ∧ p.1 ≠ L ∧ hb.get? p.1 = none) (hF : ∀ p ∈ frs, p.1 ≠ L ∧ hb.get? p.1 = none) :
    ∃ frs', SameUp frs frs' ∧ Frs l frs' ∧ Fr hb L h m ∧ News hb L h (new ++ frs') := by
  match fs, SU, H with
  | q :: qs, ⟨e1, ⟨sl, eo⟩, SU'⟩, H =>
    have hq := (H.frs q (.head _)).1
    rw [e1, eo] at hq
    refine ⟨qs, SU', H.Fs.2.2.2, ⟨C.ns h sl hq, fun b o hb' => H.stays b o (hB b o hb'), C.above⟩, fun p hp => ?_⟩
    rcases List.mem_append.mp hp with hp | hp
    · obtain ⟨x1, x2, x3⟩ := hN p hp
      exact ⟨H.stays _ _ x1, x2, x3⟩
    · obtain ⟨z, hz, ez⟩ := SU'.fwd p hp
      obtain ⟨y1, y2⟩ := hF z hz
      exact ⟨(H.frs p (.tail _ hp)).1, by rw [ez]; exact y1, by rw [ez]; exact y2⟩
theorem catch_on {oL : Obj} (H : HV B (envOf name scope L a cd :: l) fs e cls a0 .none s'.heap) (hfr : A₀.frames = some l) (C : TI.Caller hb L m oL) (SU : SameUp ((L, oL) :: frs) fs) (hB : ∀ b o, hb.get? b = some o → B.get? b = some o) (hN : ∀ p ∈ new, B.get? p.1 = some p.2 ∧ p.1 ≠ L ∧ hb.get? p.1 = none) (hF : ∀ p ∈ frs, p.1 ≠ L ∧ hb.get? p.1 = none)
    (X : K.In hb) (T : TopRead p loose mg mb hb) (ht : KtsTest P w K p loose mg mb name scope L a cd cls t true)
    (k : ∀ h' frs', SameUp frs frs' → Frs l frs' → Fr hb L h' m → News hb L h' (new ++ frs') → wpAny (model P w) ((A₀.deeper (envOf name scope L a cd)).mark (some (.ref e))) (execs (b₀ :: suite) (envOf name scope L a cd)) Q E { s' with heap := h' })
    (hE : PassesOwnAt (model P w) ((A₀.deeper (envOf name scope L a cd)).mark (some (.ref e))) (A₀.deeper (envOf name scope L a cd)) (envOf name scope L a cd) E := by passes_own) :
    wpAny (model P w) (A₀.deeper (envOf name scope L a cd)) (noteFrame (.ref e) (envOf name scope L a cd)) (fun _ s₂ => wpAny (model P w) (A₀.deeper (envOf name scope L a cd)) (setFlight (.ref e) none) (fun _ s₃ =>
      wpAny (model P w) (A₀.deeper (envOf name scope L a cd)) (handleBy (.ref e) (envOf name scope L a cd) (.ExceptHandler (some t) none (b₀ :: suite) pos :: rest)) Q E s₃) E s₂) E s' := by
  refine note_onV H (Around.frames_deeper hfr) rfl fun h₁ fs₁ u₁ H₁ => ?_
  refine landV H₁ fun h₂ H₂ => ?_
  obtain ⟨frs₂, u₂, Fs₂, F₂, N₂⟩ := H₂.back C (SU.trans u₁) hB hN hF
  refine handle_hit rfl (ht _ _ _ _ hb e m F₂ X T H₂.ty fun h₃ k₃ => ⟨rfl, ?_⟩)
  refine landV (H₂.keeps k₃) fun h₄ H₄ => ?_
  obtain ⟨frs₄, u₄, Fs₄, F₄, N₄⟩ := H₄.back C (SU.trans u₁) hB hN hF
  exact wpAny_passesOwnAt hE (k h₄ frs₄ u₄ Fs₄ F₄ N₄)
theorem gone_keeps {f : List Addr} {b : Addr} {o : Obj} (hb : h.get? b = some o) (hn : b ∉ f) : (PyProof.Rows.TI.gone h f).get? b = some o := (gone_get hn).trans hb
theorem frame_obj (F : Fr hb L h m) : ∃ oL, h.get? L = some oL ∧ TI.Caller hb L m oL := by
  obtain ⟨oL, es, ep, hL, hLd, hLk, hLf⟩ := F.ns
  exact ⟨oL, hL, fun h' sl e => ⟨_, es, ep, e, hLd, hLk, hLf⟩, ⟨es, ep, hLd⟩, F.above⟩
theorem catch_V (hfr : A₀.frames = some l) (Fs : Frs l frs) (hx : NewV h s'.heap e cls) (F : Fr hb L h m) (N : News hb L h (new ++ frs)) (hnd : ((new ++ frs).map (·.1)).Nodup)
    (X : K.In hb) (T : TopRead p loose mg mb hb) (ht : KtsTest P w K p loose mg mb name scope L a cd cls t true)
    (k : ∀ h' frs', SameUp frs frs' → Frs l frs' → Fr hb L h' m → News hb L h' (new ++ frs') → wpAny (model P w) ((A₀.deeper (envOf name scope L a cd)).mark (some (.ref e))) (execs (b₀ :: suite) (envOf name scope L a cd)) Q E { s' with heap := h' })
    (hk : scope.kind = .function := by rfl)
    (hE : PassesOwnAt (model P w) ((A₀.deeper (envOf name scope L a cd)).mark (some (.ref e))) (A₀.deeper (envOf name scope L a cd)) (envOf name scope L a cd) E := by passes_own) :
    wpAny (model P w) (A₀.deeper (envOf name scope L a cd)) (noteFrame (.ref e) (envOf name scope L a cd)) (fun _ s₂ => wpAny (model P w) (A₀.deeper (envOf name scope L a cd)) (setFlight (.ref e) none) (fun _ s₃ =>
      wpAny (model P w) (A₀.deeper (envOf name scope L a cd)) (handleBy (.ref e) (envOf name scope L a cd) (.ExceptHandler (some t) none (b₀ :: suite) pos :: rest)) Q E s₃) E s₂) E s' := by
  obtain ⟨oL, hL, C⟩ := frame_obj F
  have hkind : (envOf name scope L a cd).scope.kind ≠ .module := by
    show scope.kind ≠ .module
    rw [hk]; decide
  have Fs1 : Frs (envOf name scope L a cd :: l) ((L, oL) :: frs) := ⟨hkind, rfl, C.dict, Fs⟩
  have hF : ∀ p ∈ frs, p.1 ≠ L ∧ hb.get? p.1 = none := fun p hp => (N p (List.mem_append_right _ hp)).2
  have hap : ∀ q ∈ new, q.1 ∉ ((L, oL) :: frs).map (·.1) := fun q hq hm => by
    rcases List.mem_cons.mp hm with e1 | hm
    · exact (N q (List.mem_append_left _ hq)).2.1 e1
    · rw [List.map_append, List.nodup_append] at hnd
      exact hnd.2.2 _ (List.mem_map.mpr ⟨q, hq, rfl⟩) _ hm rfl
  have hB : ∀ b o, hb.get? b = some o → (PyProof.Rows.TI.gone h (((L, oL) :: frs).map (·.1))).get? b = some o := fun b o hbo => gone_keeps (F.keep b o hbo) fun hm => by
    rcases List.mem_cons.mp hm with e1 | hm
    · exact absurd F.above (Nat.not_le.mpr (by rw [← show b = L from e1]; exact Heap.lt_size hbo))
    · obtain ⟨q, hq, e1⟩ := List.mem_map.mp hm
      have := (hF q hq).2
      rw [show q.1 = b from e1, hbo] at this; cases this
  have hN : ∀ p ∈ new, (PyProof.Rows.TI.gone h (((L, oL) :: frs).map (·.1))).get? p.1 = some p.2 ∧ p.1 ≠ L ∧ hb.get? p.1 = none := fun p hp => by
    obtain ⟨x1, x2, x3⟩ := N p (List.mem_append_left _ hp)
    exact ⟨gone_keeps x1 (hap p hp), x2, x3⟩
  refine note_newV (Around.frames_deeper hfr) rfl Fs1 (fun q hq => ?_) hx rfl fun h₁ fs₁ a0 u₁ H₁ => ?_
  · rcases List.mem_cons.mp hq with rfl | hq
    · exact hL
    · exact (N q (List.mem_append_right _ hq)).1
  refine landV H₁ fun h₂ H₂ => ?_
  obtain ⟨frs₂, u₂, Fs₂, F₂, N₂⟩ := H₂.back C u₁ hB hN hF
  refine handle_hit rfl (ht _ _ _ _ hb e m F₂ X T H₂.ty fun h₃ k₃ => ⟨rfl, ?_⟩)
  refine landV (H₂.keeps k₃) fun h₄ H₄ => ?_
  obtain ⟨frs₄, u₄, Fs₄, F₄, N₄⟩ := H₄.back C u₁ hB hN hF
  exact wpAny_passesOwnAt hE (k h₄ frs₄ u₄ Fs₄ F₄ N₄)
noncomputable def Raised (hb : Heap) (L : Addr) (m : Str → Option Value) (env : Env) (l : List Env) (new frs : List (Addr × Obj)) (e : Addr) (cls : Value) (h : Heap) : Prop :=
  ∃ B oL fs a0, HV B (env :: l) fs e cls a0 .none h ∧ TI.Caller hb L m oL ∧ SameUp ((L, oL) :: frs) fs ∧ (∀ b o, hb.get? b = some o → B.get? b = some o) ∧ (∀ p ∈ new, B.get? p.1 = some p.2 ∧ p.1 ≠ L ∧ hb.get? p.1 = none) ∧ (∀ p ∈ frs, p.1 ≠ L ∧ hb.get? p.1 = none)
theorem leave_V {L₁ : Addr} {oL : Obj} {m₁ : Str → Option Value} {cenv : Env} {Q : Unit → Shared → Prop} {f1 : List (Addr × Obj)} (hfr : A₀.frames = some (cenv :: l)) (C : TI.Caller hb L m oL) (Fs : Frs (cenv :: l) ((L, oL) :: frs)) (u : SameUp ((L, oL) :: frs) f1) (hx : NewV h s'.heap e cls) (F : Fr hb L₁ h m₁) (N : News hb L₁ h (new ++ f1)) (hnd : ((new ++ f1).map (·.1)).Nodup)
    (hNL : ∀ p ∈ frs, hb.get? p.1 = none)
    (k : ∀ h', Raised hb L m cenv l new frs e cls h' → Q () { s' with heap := h' }) (hk : scope.kind = .function := by rfl) :
    wpAny (model P w) (A₀.deeper (envOf name scope L₁ a cd)) (leaving (envOf name scope L₁ a cd) (.ref e)) Q E s' := by
  obtain ⟨o₁, hL₁, C₁⟩ := frame_obj F
  have hkind : (envOf name scope L₁ a cd).scope.kind ≠ .module := by
    show scope.kind ≠ .module
    rw [hk]; decide
  have Fs1 : Frs (envOf name scope L₁ a cd :: cenv :: l) ((L₁, o₁) :: f1) := ⟨hkind, rfl, C₁.dict, Fs.up u⟩
  have hF : ∀ p ∈ f1, p.1 ≠ L₁ ∧ hb.get? p.1 = none := fun p hp => (N p (List.mem_append_right _ hp)).2
  have hnd2 := hnd
  rw [List.map_append, List.nodup_append] at hnd2
  have hap : ∀ q ∈ new, q.1 ∉ ((L₁, o₁) :: f1).map (·.1) := fun q hq hm => by
    rcases List.mem_cons.mp hm with e1 | hm
    · exact (N q (List.mem_append_left _ hq)).2.1 e1
    · exact hnd2.2.2 _ (List.mem_map.mpr ⟨q, hq, rfl⟩) _ hm rfl
  have hff := sameUp_fst u
  refine leave_newV (fs := f1) (o := o₁) (Around.frames_deeper hfr) rfl Fs1 (fun q hq => ?_) hx rfl fun h₁ fs₁ a0 u₁ H₁ => k h₁ ⟨_, oL, fs₁, a0, H₁, C, u.trans u₁, fun b o hbo => gone_keeps (F.keep b o hbo) fun hm => ?_, fun p hp => ?_, fun p hp => ⟨fun e1 => ?_, hNL p hp⟩⟩
  · rcases List.mem_cons.mp hq with rfl | hq
    · exact hL₁
    · exact (N q (List.mem_append_right _ hq)).1
  · rcases List.mem_cons.mp hm with e1 | hm
    · exact absurd F.above (Nat.not_le.mpr (by rw [← show b = L₁ from e1]; exact Heap.lt_size hbo))
    · obtain ⟨q, hq, e1⟩ := List.mem_map.mp hm
      have := (hF q hq).2
      rw [show q.1 = b from e1, hbo] at this; cases this
  · obtain ⟨x1, x2, x3⟩ := N p (List.mem_append_left _ hp)
    refine ⟨gone_keeps x1 (hap p hp), fun e1 => hnd2.2.2 _ (List.mem_map.mpr ⟨p, hp, rfl⟩) L ?_ e1, x3⟩
    rw [hff]; exact .head _
  · rw [hff, List.map_cons, List.nodup_cons] at hnd2
    exact hnd2.2.1.1 (List.mem_map.mpr ⟨p, hp, e1⟩)
end
theorem nodup_mid {news frs : List (Addr × Obj)} {L : Addr} {oL : Obj} (hnd : ((news ++ frs).map (·.1)).Nodup) (hneL : ∀ p ∈ news ++ frs, p.1 ≠ L) : ((news ++ (L, oL) :: frs).map (·.1)).Nodup := by
  have hp : ((news ++ (L, oL) :: frs).map (·.1)).Perm (L :: (news ++ frs).map (·.1)) := by rw [List.map_append, List.map_append, List.map_cons]; exact List.perm_middle
  exact hp.symm.nodup (List.nodup_cons.mpr ⟨fun h => by obtain ⟨q, hq, e⟩ := List.mem_map.mp h; exact hneL q hq e, hnd⟩)

end
section
open PySem PySem.W PyProof.Rows PySem.Spec PySem.Calls PyProof.Rows.TI
set_option maxRecDepth 100000
noncomputable def Bare (h : Heap) (e : Addr) : Prop := ∃ ob vs, h.get? e = some ob ∧ ob.data = .fields vs ∧ vs[2]? = some .none
section
variable {P : Program} {w : World} {A : Around} {E : Value → Shared → Prop} {s' : Shared} {B h : Heap} {l : List Env} {env : Env} {fs : List (Addr × Obj)} {L e : Addr} {cls a0 fl : Value} {Q : Unit → Shared → Prop} {M : Model}
theorem note_bare {ob : Obj} {vs : Array Value} (hfr : A.frames = some (env :: l)) (hf : env.frame = some L) (hl : s'.heap.FunFrames B (env :: l)) (he : s'.heap.get? e = some ob) (hd : ob.data = .fields vs) (h1 : vs[1]? = some .none) (h2 : vs[2]? = some .none)
    (hcls : ob.cls = cls) (h0 : vs[0]? = some a0) (hst : B.StaysIn s'.heap) (hen : B.get? e = none)
    (k : ∀ h', Heap.NotedW B (env :: l) e cls a0 (rawInt L) s'.heap h' → Bare h' e → Q () { s' with heap := h' }) : wpAny M A (noteFrame (.ref e) env) Q E s' := by
  have hsz : 1 < vs.size := (Array.getElem?_eq_some_iff.mp h1).1
  have hnf : ∀ b o, s'.heap.get? b = some o → (∀ ws, o.data ≠ .fields ws) → b ≠ e := fun b o hb hn q => by
    subst q; rw [he] at hb; cases hb; exact hn vs hd
  have hout : e ∉ (env :: l).filterMap (·.frame) := fun hm => by
    obtain ⟨_, o, ho, hn⟩ := hl.mem hm
    exact hnf e o ho hn rfl
  unfold noteFrame
  simp only [hf]
  refine wpAny_bind (wpAny_field he hd h1 ?_)
  rw [if_neg (by decide)]
  refine wpAny_bind (wpAny_frameOf_fun hfr hl hf fun g hg => wpAny_bind (wpAny_entryPlaceOf fun pl hpl => ?_))
  have heg : g.get? e = some ob := (hg.2.1 e hout).trans he
  have hBg : B.StaysIn g := fun b o hb => (hg.2.1 b fun hm => by rw [(hl.mem hm).1] at hb; cases hb).trans (hst b o hb)
  unfold EntryCells.newEntry newFields
  refine wpAny_bind (wpAny_newObj_type ?_ (hpl.sizeOk5 _ _ _ _ _))
  generalize hT : ({ cls := .type "traceback", dict := none, data := .fields ([Value.none, .ref L, .none, rawInt L, .none] ++ (if pl.isEmpty then List.replicate 6 Value.none else pl)).toArray } : Obj) = oT
  have hTd : oT.data = .fields ([Value.none, .ref L, .none, rawInt L, .none] ++ (if pl.isEmpty then List.replicate 6 Value.none else pl)).toArray := by rw [← hT]
  have hTf : oT.isFreed = false := by rw [← hT]; rfl
  have hep := Heap.get?_push_of_some oT heg
  have hTe : g.objs.size ≠ e := Nat.ne_of_gt (Heap.lt_size heg)
  refine wpAny_setField hep hd hsz ?_
  have hd' := Obj.data_mapFields hd (·.setIfInBounds 1 (Value.ref g.objs.size))
  have he' := Heap.get?_update_self (Obj.mapFields (·.setIfInBounds 1 (Value.ref g.objs.size))) hep (Obj.isFreed_of_fields hd')
  have up : ∀ b o, b ≠ e → g.get? b = some o → ((g.push oT).update e (Obj.mapFields (·.setIfInBounds 1 (Value.ref g.objs.size)))).get? b = some o := fun b o hb hgo =>
    (Heap.get?_update_other _ _ (Ne.symm hb)).trans (Heap.get?_push_of_some _ hgo)
  refine k _ ⟨fun b o hb => up b o (fun q => by rw [q, hen] at hb; cases hb) (hBg b o hb), hl.of_keeps fun b o hb hn => ?_, ?_, fun b o hb hn => ?_⟩ ⟨_, _, he', hd', by rw [Array.getElem?_setIfInBounds_ne (by decide)]; exact h2⟩
  · obtain ⟨sl, hs⟩ := hg.2.2 b o hb
    exact ⟨_, up b _ (hnf b o hb hn) hs, rfl⟩
  · refine ⟨_, _, g.objs.size, oT, _, he', ⟨(Obj.cls_mapFields _ _).trans hcls, by rw [Array.getElem?_setIfInBounds_ne (by decide)]; exact h0⟩, hd', by simp [hsz], hBg.fresh, hTe, (Heap.get?_update_other _ _ (Ne.symm hTe)).trans (Heap.get?_push_size _ hTf), hTd, ?_⟩
    first | (simp; done) | (rcases hpl with rfl | ⟨_, _, _, _, _, _, _, rfl⟩ <;> simp)
  · obtain ⟨sl, hs⟩ := hg.2.2 b o hb
    exact ⟨sl, up b _ (hnf b o hb hn) hs⟩
theorem land_bare (H : HV B l fs e cls a0 fl s'.heap) (hb : Bare s'.heap e) (k : ∀ h', HV B l fs e cls a0 .none h' → Bare h' e → Q () { s' with heap := h' }) : wpAny M A (setFlight (.ref e) none) Q E s' := by
  obtain ⟨oe, vs, T, oT, ts, he, hcl, hd, h1, hnT, hTe, hT, hdT, h3⟩ := H.tr
  obtain ⟨ob, ws, he', hd', h2⟩ := hb
  rw [he] at he'; cases he'
  have hsz : 3 < ts.size := (Array.getElem?_eq_some_iff.mp h3).1
  have other : ∀ b, b ≠ T → (s'.heap.update T (Obj.mapFields (·.setIfInBounds 3 .none))).get? b = s'.heap.get? b := fun b hb => Heap.get?_update_other _ _ (Ne.symm hb)
  refine wpAny_setFlight_none he hd h1 hT hdT hsz (k _ ⟨fun b o hbo => (other b fun q => by rw [q, hnT] at hbo; cases hbo).trans (H.stays b o hbo), H.new, ⟨oe, vs, T, _, _, (other e (Ne.symm hTe)).trans he, hcl, hd, h1, hnT, hTe, Heap.get?_update_self _ hT (Obj.isFreed_of_fields (Obj.data_mapFields hdT _)), Obj.data_mapFields hdT _, by simp [Array.getElem?_setIfInBounds, hsz]⟩, fun q hq => ⟨(other q.1 fun c => ?_).trans (H.frs q hq).1, (H.frs q hq).2⟩, H.Fs⟩ ⟨oe, ws, (other e (Ne.symm hTe)).trans he, hd', h2⟩)
  obtain ⟨es, ep, hdd⟩ := H.Fs.dict q hq
  have := (H.frs q hq).1
  rw [c, hT] at this
  cases this
  rw [hdT] at hdd; cases hdd
end
section
variable {P : Program} {w : World} {A₀ : Around} {E : Value → Shared → Prop} {s' : Shared} {hb h B : Heap} {L a e : Addr} {m : Str → Option Value} {name : Str} {scope : Scope} {cd cls a0 fl : Value} {new frs fs : List (Addr × Obj)} {l : List Env}
  {b₀ : Stmt} {suite : List Stmt} {pos : Pos} {t : Expr} {rest : List ExceptHandler} {Q : Flow → Shared → Prop} {p : Program} {loose : List Str} {mg mb : Str → Option Value} {K : Frag} {X : String}
theorem catch_B (hfr : A₀.frames = some l) (Fs : Frs l frs) (hx : Heap.NewExc h s'.heap e X) (F : Fr hb L h m) (N : News hb L h (new ++ frs)) (hnd : ((new ++ frs).map (·.1)).Nodup)
    (XK : K.In hb) (T : TopRead p loose mg mb hb) (ht : KtsTest P w K p loose mg mb name scope L a cd (.type X) t true)
    (k : ∀ h' frs', SameUp frs frs' → Frs l frs' → Fr hb L h' m → News hb L h' (new ++ frs') → Bare h' e → hb.get? e = none → wpAny (model P w) ((A₀.deeper (envOf name scope L a cd)).mark (some (.ref e))) (execs (b₀ :: suite) (envOf name scope L a cd)) Q E { s' with heap := h' })
    (hk : scope.kind = .function := by rfl)
    (hE : PassesOwnAt (model P w) ((A₀.deeper (envOf name scope L a cd)).mark (some (.ref e))) (A₀.deeper (envOf name scope L a cd)) (envOf name scope L a cd) E := by passes_own) :
    wpAny (model P w) (A₀.deeper (envOf name scope L a cd)) (noteFrame (.ref e) (envOf name scope L a cd)) (fun _ s₂ => wpAny (model P w) (A₀.deeper (envOf name scope L a cd)) (setFlight (.ref e) none) (fun _ s₃ =>
      wpAny (model P w) (A₀.deeper (envOf name scope L a cd)) (handleBy (.ref e) (envOf name scope L a cd) (.ExceptHandler (some t) none (b₀ :: suite) pos :: rest)) Q E s₃) E s₂) E s' := by
  obtain ⟨oL, hL, C⟩ := frame_obj F
  have hkind : (envOf name scope L a cd).scope.kind ≠ .module := by
    show scope.kind ≠ .module
    rw [hk]; decide
  have Fs1 : Frs (envOf name scope L a cd :: l) ((L, oL) :: frs) := ⟨hkind, rfl, C.dict, Fs⟩
  have hF : ∀ p ∈ frs, p.1 ≠ L ∧ hb.get? p.1 = none := fun p hp => (N p (List.mem_append_right _ hp)).2
  have hap : ∀ q ∈ new, q.1 ∉ ((L, oL) :: frs).map (·.1) := fun q hq hm => by
    rcases List.mem_cons.mp hm with e1 | hm
    · exact (N q (List.mem_append_left _ hq)).2.1 e1
    · rw [List.map_append, List.nodup_append] at hnd
      exact hnd.2.2 _ (List.mem_map.mpr ⟨q, hq, rfl⟩) _ hm rfl
  have hB : ∀ b o, hb.get? b = some o → (PyProof.Rows.TI.gone h (((L, oL) :: frs).map (·.1))).get? b = some o := fun b o hbo => gone_keeps (F.keep b o hbo) fun hm => by
    rcases List.mem_cons.mp hm with e1 | hm
    · exact absurd F.above (Nat.not_le.mpr (by rw [← show b = L from e1]; exact Heap.lt_size hbo))
    · obtain ⟨q, hq, e1⟩ := List.mem_map.mp hm
      have := (hF q hq).2
      rw [show q.1 = b from e1, hbo] at this; cases this
  have hN : ∀ p ∈ new, (PyProof.Rows.TI.gone h (((L, oL) :: frs).map (·.1))).get? p.1 = some p.2 ∧ p.1 ≠ L ∧ hb.get? p.1 = none := fun p hp => by
    obtain ⟨x1, x2, x3⟩ := N p (List.mem_append_left _ hp)
    exact ⟨gone_keeps x1 (hap p hp), x2, x3⟩
  have hfs : ∀ q ∈ (L, oL) :: frs, s'.heap.get? q.1 = some q.2 ∧ (PyProof.Rows.TI.gone h (((L, oL) :: frs).map (·.1))).get? q.1 = none := fun q hq => ⟨hx.keeps _ _ (by
    rcases List.mem_cons.mp hq with rfl | hq
    · exact hL
    · exact (N q (List.mem_append_right _ hq)).1), gone_none (List.mem_map_of_mem hq)⟩
  have hen : (PyProof.Rows.TI.gone h (((L, oL) :: frs).map (·.1))).get? e = none := by
    cases hq : (PyProof.Rows.TI.gone h (((L, oL) :: frs).map (·.1))).get? e with
    | none => rfl
    | some o => have := (gone_some hq).2; rw [hx.new] at this; cases this
  have he0 : hb.get? e = none := by
    cases hq : hb.get? e with
    | none => rfl
    | some o => have := F.keep e o hq; rw [hx.new] at this; cases this
  obtain ⟨ob, t0, he, hcls, hd⟩ := hx.there
  refine note_bare (a0 := t0) (cls := .type X) (Around.frames_deeper hfr) rfl (Fs1.fun hfs) he hd rfl rfl hcls rfl (fun b o hbo => hx.keeps b o (gone_some hbo).2) hen fun h₁ hN₁ hb₁ => ?_
  obtain ⟨k1, k2, k3, k4⟩ := hN₁
  obtain ⟨fs₁, u₁, hfs₁⟩ := up_of Fs1 (fun q hq => (hfs q hq).1) k4
  have H₁ : HV (PyProof.Rows.TI.gone h (((L, oL) :: frs).map (·.1))) (envOf name scope L a cd :: l) fs₁ e (.type X) t0 (rawInt L) h₁ := ⟨k1, hen, k3, fun q hq => ⟨hfs₁ q hq, frs_none (fun q hq => (hfs q hq).2) u₁ q hq⟩, Fs1.up u₁⟩
  refine land_bare H₁ hb₁ fun h₂ H₂ hb₂ => ?_
  obtain ⟨frs₂, u₂, Fs₂, F₂, N₂⟩ := H₂.back C u₁ hB hN hF
  refine handle_hit rfl (ht _ _ _ _ hb e m F₂ XK T H₂.ty fun h₃ k₃ => ⟨rfl, ?_⟩)
  refine land_bare (H₂.keeps k₃) (by obtain ⟨ob, vs, x1, x2, x3⟩ := hb₂; exact ⟨ob, vs, k₃ _ _ x1, x2, x3⟩) fun h₄ H₄ hb₄ => ?_
  obtain ⟨frs₄, u₄, Fs₄, F₄, N₄⟩ := H₄.back C u₁ hB hN hF
  exact wpAny_passesOwnAt hE (k h₄ frs₄ u₄ Fs₄ F₄ N₄ hb₄ he0)
end

end
section
open PySem PySem.W PyProof.Rows PySem.Spec PySem.Calls PyProof.Rows.TI
set_option maxRecDepth 100000
theorem unchain_entry : entryFor table "proto.unchain" = some Builtin.«proto.unchain» := entryFor_of_tree (by kernel_rfl)
section
variable {P : Program} {w : World} {A : Around} {E : Value → Shared → Prop} {s : Shared} {env : Env}
set_option maxHeartbeats 1000000 in
theorem raise_from_none {cls : String} (F : ExcRaiseFacts cls) {x : Expr} {kk : Nat} {p pos : Pos} {e1 : Addr} {Q : Flow → Shared → Prop} (hh : A.handled = some (.ref e1))
    (h : wpAny (model P w) A (eval x env) (fun v s₁ => ∃ e t, v = .ref e ∧ s₁.heap.get? e = some { cls := .type cls, data := .fields #[.ref t, .none, .none, .none, .bool false, .none] } ∧ Bare s₁.heap e1 ∧ e ≠ e1 ∧
      ∀ h', (∀ b, b ≠ e → h'.get? b = s₁.heap.get? b) → (∃ ob vs, h'.get? e = some ob ∧ ob.cls = .type cls ∧ ob.data = .fields vs ∧ vs[0]? = some (.ref t) ∧ vs[1]? = some .none) → E (.ref e) { s₁ with heap := h' }) E s) :
    wpAny (model P w) A (exec (.Raise (some x) (some (.Constant .none kk p)) pos) env) Q E s := by
  rw [arm_exec_Raise]
  refine wpAny_bind (wpAny_standAt ?_)
  simp only [evalOpt, Option.map]
  unfold raiseStmt
  refine wpAny_bind (wpAny_bind (wpAny_mono h (fun v s₁ h₁ => ?_) fun _ _ x => x))
  obtain ⟨e, t, rfl, he, hb, hne, hE⟩ := h₁
  obtain ⟨hp, g, d, tk, os⟩ := s₁
  have hsub := F.isExc
  have hmeta := F.plainMeta
  refine wpAny_bind (wpAny_standAt (wpAny_pure ?_))
  repeat (first | refine wpAny_loadPart he ?_ | wp_step)
  have he3 := Heap.get?_update_self (Obj.mapFields (·.setIfInBounds 3 Value.none)) he rfl
  have he4 := Heap.get?_update_self (Obj.mapFields (·.setIfInBounds 4 (Value.bool true))) he3 rfl
  obtain ⟨ob, vs, hb1, hb2, hb3⟩ := hb
  have hb4 : ((hp.update e (Obj.mapFields (·.setIfInBounds 3 Value.none))).update e (Obj.mapFields (·.setIfInBounds 4 (Value.bool true)))).get? e1 = some ob := (Heap.get?_update_other _ _ hne).trans ((Heap.get?_update_other _ _ hne).trans hb1)
  unfold raiseNew
  refine wpAny_bind (wpAny_handled ?_)
  rw [hh]
  dsimp only
  rw [if_pos (show (Value.ref e1 != Value.ref e) = true by simp [Ne.symm hne])]
  refine wpAny_bind (wpAny_holding (wpAny_runValue (codeAny_builtin unchain_entry ?_)))
  show wpAny _ _ (field (.ref e1) 2 >>= _) _ _ _
  refine wpAny_bind (wpAny_field hb4 hb2 hb3 ?_)
  rw [if_pos (by rfl)]
  refine wpAny_pure ?_
  dsimp only
  refine wpAny_bind ?_
  show wpAny _ _ (setField (.ref e) 2 (.ref e1)) _ _ _
  refine wpAny_setField he4 (vs := #[Value.ref t, .none, .none, .none, .bool true, .none]) rfl (by show 2 < 6; decide) (wpAny_throw ?_)
  have he5 := Heap.get?_update_self (Obj.mapFields (·.setIfInBounds 2 (Value.ref e1))) he4 rfl
  exact hE _ (fun b hb => (Heap.get?_update_other _ _ (Ne.symm hb)).trans ((Heap.get?_update_other _ _ (Ne.symm hb)).trans (Heap.get?_update_other _ _ (Ne.symm hb)))) ⟨_, #[Value.ref t, .none, .ref e1, .none, .bool true, .none], he5, rfl, rfl, rfl, rfl⟩
end

end
section
open PySem PySem.W PyProof.Rows PySem.Spec PySem.Calls
set_option maxRecDepth 100000
section
variable {prog : Program} {w : World} {A : Around} {E : Value → Shared → Prop} {s : Shared} {env : Env}
theorem unpack_many {elts : List Expr} {x1} {pos : Pos} {t : Addr} {a b c : Value} {Q : Unit → Shared → Prop} (hh : A.handled = none) (ht : s.heap.IsTuple t #[a, b, c])
    (hn : (assignEach elts env).length = 2) (hstar : (assignEach elts env).findIdx? (·.1) = none)
    (h : ∀ h₁ h' tk e, (∀ b o, s.heap.get? b = some o → h₁.get? b = some o) → Heap.NewExc h₁ h' e "ValueError" → E (.ref e) { s with heap := h', toks := tk }) :
    wpAny (model prog w) A (assign (.Tuple elts x1 pos) env (.ref t)) Q E s := by
  rw [arm_assign_Tuple]
  refine wpAny_bind (wpAny_standAt ?_)
  unfold unpack
  rw [hn, hstar]
  refine wpAny_bind (wpAny_holding ?_)
  have hlt : t ≠ s.heap.objs.size := by obtain ⟨o, ho, _⟩ := ht; exact Nat.ne_of_lt (Heap.lt_size ho)
  unfold unpackItems
  refine wpAny_bind ?_
  unfold notIterableAtAll
  refine wpAny_bind (wpAny_specialOf ht.typeIs PySem.F.slot_tuple_iter.lookup ?_)
  refine wpAny_pure ?_
  simp only [Bool.false_eq_true, if_false]
  refine wpAny_bind (wpAny_holding (wpAny_pyIter_tuple ht ?_))
  refine wpAny_bind (wpAny_holding (wpAny_draw_tuple hlt 2 0 _ _ ⟨_, Heap.get?_push_size _ rfl, rfl, rfl⟩ (ht.push _) (by simp) fun h₁ hit₁ hs₁ => ?_))
  have ht₁ : h₁.IsTuple t #[a, b, c] := (ht.push _).extBut hs₁.extBut hlt
  rw [if_neg (by simp)]
  refine wpAny_bind (wpAny_holding (wpAny_pyNext_tuple_item (x := c) hit₁ ht₁ (by simp) fun h₂ hit₂ hs₂ => ?_))
  simp only [Option.isSome_some, if_true]
  refine wpAny_bind (wpAny_rule (wpAny_bind ?_))
  refine wpAny_raiseErrorMade plainExc_ValueError hh (fun h' tk e hx => h h₂ h' tk e (fun b o hb => ?_) hx) (by show ((_ : String) : Str).length ≤ _; decide +kernel)
  have hb1 : b ≠ s.heap.objs.size := Nat.ne_of_lt (Heap.lt_size hb)
  exact (hs₂.2 b hb1).trans ((hs₁.2 b hb1).trans (Heap.get?_push_of_some _ hb))
theorem unpack_few {elts : List Expr} {x1} {pos : Pos} {t : Addr} {a : Value} {Q : Unit → Shared → Prop} (hh : A.handled = none) (ht : s.heap.IsList t #[a])
    (hn : (assignEach elts env).length = 2) (hstar : (assignEach elts env).findIdx? (·.1) = none)
    (h : ∀ h₁ h' tk e, (∀ b o, s.heap.get? b = some o → h₁.get? b = some o) → Heap.NewExc h₁ h' e "ValueError" → E (.ref e) { s with heap := h', toks := tk }) :
    wpAny (model prog w) A (assign (.Tuple elts x1 pos) env (.ref t)) Q E s := by
  rw [arm_assign_Tuple]
  refine wpAny_bind (wpAny_standAt ?_)
  unfold unpack
  rw [hn, hstar]
  refine wpAny_bind (wpAny_holding ?_)
  have hlt : t ≠ s.heap.objs.size := by obtain ⟨o, ho, _⟩ := ht; exact Nat.ne_of_lt (Heap.lt_size ho)
  unfold unpackItems
  refine wpAny_bind ?_
  unfold notIterableAtAll
  refine wpAny_bind (wpAny_specialOf ht.typeIs PySem.F.slot_list_iter.lookup ?_)
  refine wpAny_pure ?_
  simp only [Bool.false_eq_true, if_false]
  refine wpAny_bind (wpAny_holding (wpAny_pyIter_list ht ?_))
  refine wpAny_bind (wpAny_holding ?_)
  unfold draw
  refine wpAny_bind (wpAny_pyNext_list_item (x := a) (items := #[a]) (l := t) (i := 0) ⟨_, Heap.get?_push_size _ rfl, rfl, rfl⟩ (ht.push _) (by simp) fun h₁ hit₁ hs₁ => ?_)
  have ht₁ : h₁.IsList t #[a] := (ht.push _).extBut hs₁.extBut hlt
  refine wpAny_bind (wpAny_holding ?_)
  unfold draw
  refine wpAny_bind (wpAny_pyNext_list_end hh hit₁ ht₁ (by simp) fun h₂ he₂ => ?_)
  refine wpAny_pure (wpAny_pure ?_)
  rw [if_pos (by simp)]
  refine wpAny_bind (wpAny_rule (wpAny_bind ?_))
  refine wpAny_raiseErrorMade plainExc_ValueError hh (fun h' tk e hx => h h₂ h' tk e (fun b o hb => ?_) hx) (by rw [show [a].length = 1 from rfl]; decide +kernel)
  have hb1 : b ≠ s.heap.objs.size := Nat.ne_of_lt (Heap.lt_size hb)
  exact he₂ b o hb1 ((hs₁.2 b hb1).trans (Heap.get?_push_of_some _ hb))
theorem unpack_walk {elts : List Expr} {x1} {pos : Pos} {v : Value} {I : Addr} {fp wr : List Addr} {Pi : Nat → Value → Prop} {St : Nat → Heap → Prop} {h0 : Heap} {tk0 : Nat} {Q : Unit → Shared → Prop} (hn : (assignEach elts env).length = 2) (hstar : (assignEach elts env).findIdx? (·.1) = none)
    (hit : ∀ Q' : Bool → Shared → Prop, Q' false s → wpAny (model prog w) A (notIterableAtAll v) Q' E s)
    (hiter : ∀ Q' : Value → Shared → Prop, Q' (.ref I) { s with heap := h0, toks := tk0 } → wpAny (model prog w) A (pyIter v) Q' E s) (W : Walks prog w A I fp wr 2 Pi St) (hst : St 0 h0)
    (h : ∀ a b h' tk, Pi 0 a → Pi 1 b → (∀ c o, c ∉ wr → h0.get? c = some o → h'.get? c = some o) → wpAny (model prog w) A (assignInOrder ((assignEach elts env).map (·.2)) [a, b]) Q E { s with heap := h', toks := tk }) :
    wpAny (model prog w) A (assign (.Tuple elts x1 pos) env v) Q E s := by
  rw [arm_assign_Tuple]
  refine wpAny_bind (wpAny_standAt ?_)
  unfold unpack
  rw [hn, hstar]
  refine wpAny_bind (wpAny_holding ?_)
  unfold unpackItems
  refine wpAny_bind (hit _ ?_)
  simp only [Bool.false_eq_true, if_false]
  refine wpAny_bind (wpAny_holding (hiter _ ?_))
  refine wpAny_bind (wpAny_holding ?_)
  unfold draw
  refine wpAny_bind (W.item 0 _ _ _ (by decide) hst fun a h₁ t₁ ha st₁ k₁ => ?_)
  refine wpAny_bind (wpAny_holding ?_)
  unfold draw
  refine wpAny_bind (W.item 1 _ _ _ (by decide) st₁ fun b h₂ t₂ hb st₂ k₂ => ?_)
  refine wpAny_bind (wpAny_holding ?_)
  unfold draw
  refine wpAny_pure (wpAny_pure (wpAny_pure ?_))
  rw [if_neg (by simp)]
  refine wpAny_bind (wpAny_holding (W.done _ _ _ st₂ fun h₃ t₃ k₃ => ?_))
  simp only [Option.isSome_none, Bool.false_eq_true, if_false]
  exact wpAny_pure (h a b h₃ t₃ ha hb fun c o hc ho => k₃ c o hc (k₂ c o hc (k₁ c o hc ho)))
theorem unpack_Cx {elts : List Expr} {x1} {pos : Pos} {t : Tok} {Q : Unit → Shared → Prop} (hh : A.handled = none) (hn : (assignEach elts env).length = 2) (hstar : (assignEach elts env).findIdx? (·.1) = none)
    (h : ∀ u1 u2 h' tk, (∀ c o, s.heap.get? c = some o → h'.get? c = some o) → wpAny (model prog w) A (assignInOrder ((assignEach elts env).map (·.2)) [.str (Str.ofString "C") u1, .str (Str.ofString "x") u2]) Q E { s with heap := h', toks := tk }) :
    wpAny (model prog w) A (assign (.Tuple elts x1 pos) env (.str (Str.ofString "Cx") t)) Q E s := by
  have hs : (Str.ofString "Cx").cps.size = 2 := by decide +kernel
  have W := Walks.strAscii (prog := prog) (w := w) hh s.heap.objs.size (Str.ofString "Cx") t
  rw [hs] at W
  refine unpack_walk (I := s.heap.objs.size) (h0 := s.heap.push { cls := .type "str_ascii_iterator", data := .fields #[.str (Str.ofString "Cx") t, .int 0 0] }) (tk0 := s.toks) hn hstar (fun Q' hq => ?_) (fun Q' hq => wpAny_pyIter_strU ?_) W ⟨_, Heap.get?_push_size _ rfl, rfl, rfl⟩ fun a b h' tk ha hb k => ?_
  · unfold notIterableAtAll
    refine wpAny_bind (wpAny_specialOf (typeIs_str _ _ t) PySem.F.slot_str_iter.lookup ?_)
    exact wpAny_pure hq
  · rw [show strIterType (Str.ofString "Cx") = "str_ascii_iterator" by decide +kernel]; exact hq
  · obtain ⟨c0, u0, e0, rfl⟩ := ha
    obtain ⟨c1, u1, e1, rfl⟩ := hb
    have f0 : (⟨#[c0]⟩ : Str) = Str.ofString "C" := by
      have : (Str.ofString "Cx").cps[0]? = some 67 := by decide +kernel
      rw [this] at e0; cases e0; decide +kernel
    have f1 : (⟨#[c1]⟩ : Str) = Str.ofString "x" := by
      have : (Str.ofString "Cx").cps[1]? = some 120 := by decide +kernel
      rw [this] at e1; cases e1; decide +kernel
    rw [f0, f1]
    refine h _ _ h' tk fun c o ho => k c o (fun hm => ?_) (Heap.get?_push_of_some _ ho)
    have := Heap.lt_size ho
    rw [List.mem_singleton.mp hm] at this
    exact Nat.lt_irrefl _ this
end

end
section
theorem offG7 : True := by
  w_top off
  trivial
open PySem PySem.W PyProof.Rows PyProof.Rows.TI
set_option maxRecDepth 100000
set_option maxHeartbeats 8000000
section
variable {w : World} {s₀ : Shared} {mg mb : Str → Option Value} {dp un : Nat} {gd : Option (List Code)} {cn : Str} {cs : Scope} {a : Addr} {ccd : Value} {cl : List (Str × Addr)} {outer : List Env} {h₀ : Heap} {L : Addr} {m : Str → Option Value} {news frs : List (Addr × Obj)} {s : Shared} {Q E : Value → Shared → Prop}
set_option pp.maxSteps 4000 in
theorem build3 (F : Fr h₀ L s.heap m) (X : (hd.heap_1 w.params).In h₀) (N : News h₀ L s.heap (news ++ frs)) (T : Top hd.view_1 (looseW hd.view_1 [Str.ofString "_NodeInfo"]) (ExcName.means s₀.heap) mg mb h₀) (Fs : Frs outer frs) (hk : cs.kind = .function) (hnd : ((news ++ frs).map (·.1)).Nodup)
    {p : Addr} {n : Nat} {x : Str} {k1 k2 : Tok} {lv ev : Value}
    (hp : (p, ({ cls := .type "tuple", data := .seq #[lv, ev, .none] n } : Obj)) ∈ news) (hx : x.length ≤ 100) (hd : dp + 60 < recursionLimit) (hu : un + 100 < cLine)
    (rai : ∀ h' tk' e, Raised h₀ L m (envX cn cs L a ccd cl) outer news frs e (.type "TypeError") h' → E (.ref e) { s with heap := h', toks := tk' })
    : wpAny (model (PySem.Challenge.rw_mr0291_01.row.prog) w) (ktrTop dp un gd cn cs L a ccd cl outer) (call (.ref 28) [.ref p]) Q E s := by
  revert X; k_fill; intro X
  have hp' := List.mem_append_left frs hp
  refine wpAny_call ?_
  k_dflt (refine' code_T (binds := [(Str.ofString "localetuple", .ref p)]) (cn := cn) (cs := cs) (a := a) (ccd := ccd) (ccl := cl) ?kF ?kX ?kN ?kT ?kS ?k6 ?k7 ?k8 ?k9 ?kB ?_ ?kK ?c2 ?c3 ?c4 ?c5; (case kF => k_asm); (case kX => k_asm); (case kN => k_asm); (case kT => k_asm); (case kS => assumption); (case k6 => k_is); (case k7 => k_is); (case k8 => ktr_room); (case k9 => exact BindsTo.of_eq rfl); (case c5 => decide); (case kB => exact locs rfl); (case c2 => exact rfl); (case c3 => exact rfl); (case c4 => exact rfl); (case kK => assumption); k_whole; intro L' oL h' C' Fs' hneL F' N' l1; k_lt l1; (try dsimp only); (try k_fold))
  refine sealG fun GG1 hGG1 => ?_
  obtain ⟨led, hled⟩ : ∃ led, led = news ++ (L, oL) :: frs := ⟨_, rfl⟩
  refine hGG1 ?_
  rw [← hled] at N'
  have hp2 : (p, ({ cls := .type "tuple", data := .seq #[lv, ev, .none] n } : Obj)) ∈ led := by rw [hled]; exact List.mem_append_left _ hp
  have hndL := nodup_mid hnd hneL (oL := oL)
  repeat' ((fail_if_success (with_reducible show wpAny _ _ (assign (Expr.Tuple _ _ _) _ _) _ _ _)); (first | (k_unfold; (try dsimp only)) | (k_end; wrow_close) | ((with_reducible show wpAny _ _ (exec _ _) _ _ { heap := _, gens := _, drawn := _, toks := _ + 1, os := _ }); refine genT ?_; intro __tkT) | ((with_reducible show wpAny _ _ (exec _ _) _ _ _); refine sealQ ?_; intro qQ; walk1) | walk1 | (dsimp only; walk1) | (leave1; try dsimp only)))
  k_dflt (refine unpack_many rfl (by exact ⟨_, (N' _ hp2).1, rfl, _, rfl⟩) rfl rfl ?_)
  intro h1 h1' tk1 e1 kp1 hx1
  have F1 := F'.keeps kp1
  have N1 := N'.grown kp1
  repeat' ((fail_if_success (with_reducible show wpAny _ _ (noteFrame _ _) _ _ _)); (first | (k_unfold; (try dsimp only)) | (k_end; wrow_close) | ((with_reducible show wpAny _ _ (exec _ _) _ _ { heap := _, gens := _, drawn := _, toks := _ + 1, os := _ }); refine genT ?_; intro __tkT) | ((with_reducible show wpAny _ _ (exec _ _) _ _ _); refine sealQ ?_; intro qQ; walk1) | walk1 | (dsimp only; walk1) | (leave1; try dsimp only)))
  refine sealG fun GG2 hGG2 => ?_
  subst hled
  refine hGG2 ?_
  k_dflt (refine catch_B (l := envX cn cs L a ccd cl :: outer) rfl Fs' hx1 F1 N1 hndL X (topRead_of T) (by kts_test) ?_)
  intro h2 frs2 u2 Fs2 F2 N2 hb2 hen2
  repeat' ((fail_if_success (with_reducible show wpAny _ _ (exec (Stmt.Raise _ _ _) _) _ _ _)); (first | (k_unfold; (try dsimp only)) | (k_end; wrow_close) | ((with_reducible show wpAny _ _ (exec _ _) _ _ { heap := _, gens := _, drawn := _, toks := _ + 1, os := _ }); refine genT ?_; intro __tkT) | ((with_reducible show wpAny _ _ (exec _ _) _ _ _); refine sealQ ?_; intro qQ; walk1) | walk1 | (dsimp only; walk1) | (leave1; try dsimp only)))
  k_dflt (refine raise_from_none PySem.F.excRaise_TypeError rfl ?_)
  repeat' ((fail_if_success (with_reducible show wpAny _ _ (PySem.call (Value.type "TypeError") _ _) _ _ _)); (first | (k_unfold; (try dsimp only)) | (k_end; wrow_close) | ((with_reducible show wpAny _ _ (exec _ _) _ _ { heap := _, gens := _, drawn := _, toks := _ + 1, os := _ }); refine genT ?_; intro __tkT) | ((with_reducible show wpAny _ _ (exec _ _) _ _ _); refine sealQ ?_; intro qQ; walk1) | walk1 | (dsimp only; walk1) | (leave1; try dsimp only)))
  k_dflt (refine wpAny_call_exc PySem.F.excCall_TypeError ?_)
  intro h3 e3 hm3
  refine sealG fun GG3 hGG3 => ?_
  obtain ⟨t3, he3, _, _⟩ := hm3.there
  obtain ⟨ob2, vs2, x1, x2, x3⟩ := hb2
  refine hGG3 ?_
  have hne3 : e3 ≠ e1 := fun q => by
    have := hm3.new
    rw [q] at this
    rw [show _ = some ob2 from x1] at this; cases this
  refine ⟨e3, t3, rfl, he3, ⟨ob2, vs2, hm3.keeps _ _ x1, x2, x3⟩, hne3, fun h4 ho4 hob4 => ?_⟩
  refine sealG fun GG4 hGG4 => ?_
  obtain ⟨ob4, vs4, y1, y2, y3, y4, y5⟩ := hob4
  refine hGG4 ?_
  have hx4 : NewV h2 h4 e3 (.type "TypeError") := ⟨fun b o hbo => (ho4 b fun q => by rw [q] at hbo; have := hm3.new; rw [show _ = some o from hbo] at this; cases this).trans (hm3.keeps b o hbo), hm3.new, ob4, vs4, _, y1, y2, y3, y4, y5⟩
  repeat' ((fail_if_success (with_reducible show wpAny _ _ (leaving _ _) _ _ _)); (first | (k_unfold; (try dsimp only)) | (k_end; wrow_close) | ((with_reducible show wpAny _ _ (exec _ _) _ _ { heap := _, gens := _, drawn := _, toks := _ + 1, os := _ }); refine genT ?_; intro __tkT) | ((with_reducible show wpAny _ _ (exec _ _) _ _ _); refine sealQ ?_; intro qQ; walk1) | walk1 | (dsimp only; walk1) | (leave1; try dsimp only)))
  k_dflt (refine leave_V (l := outer) rfl C' Fs' u2 hx4 F2 N2 (by rw [List.map_append, sameUp_fst u2, ← List.map_append]; exact hndL) (fun p hp => (N p (List.mem_append_right _ hp)).2.2) ?_)
  intro h5 hR5
  repeat' ((first | (k_unfold; (try dsimp only)) | (k_end; wrow_close) | ((with_reducible show wpAny _ _ (exec _ _) _ _ { heap := _, gens := _, drawn := _, toks := _ + 1, os := _ }); refine genT ?_; intro __tkT) | ((with_reducible show wpAny _ _ (exec _ _) _ _ _); refine sealQ ?_; intro qQ; walk1) | walk1 | (dsimp only; walk1) | (leave1; try dsimp only)))
  exact rai _ _ _ hR5
set_option pp.maxSteps 4000 in
theorem build1 (F : Fr h₀ L s.heap m) (X : (hd.heap_1 w.params).In h₀) (N : News h₀ L s.heap (news ++ frs)) (T : Top hd.view_1 (looseW hd.view_1 [Str.ofString "_NodeInfo"]) (ExcName.means s₀.heap) mg mb h₀) (Fs : Frs outer frs) (hk : cs.kind = .function) (hnd : ((news ++ frs).map (·.1)).Nodup)
    {p : Addr} {n : Nat} {x : Str} {k1 k2 : Tok} {lv : Value}
    (hp : (p, ({ cls := .type "list", data := .seq #[lv] n } : Obj)) ∈ news) (hx : x.length ≤ 100) (hd : dp + 60 < recursionLimit) (hu : un + 100 < cLine)
    (rai : ∀ h' tk' e, Raised h₀ L m (envX cn cs L a ccd cl) outer news frs e (.type "TypeError") h' → E (.ref e) { s with heap := h', toks := tk' })
    : wpAny (model (PySem.Challenge.rw_mr0291_01.row.prog) w) (ktrTop dp un gd cn cs L a ccd cl outer) (call (.ref 28) [.ref p]) Q E s := by
  revert X; k_fill; intro X
  have hp' := List.mem_append_left frs hp
  refine wpAny_call ?_
  k_dflt (refine' code_T (binds := [(Str.ofString "localetuple", .ref p)]) (cn := cn) (cs := cs) (a := a) (ccd := ccd) (ccl := cl) ?kF ?kX ?kN ?kT ?kS ?k6 ?k7 ?k8 ?k9 ?kB ?_ ?kK ?c2 ?c3 ?c4 ?c5; (case kF => k_asm); (case kX => k_asm); (case kN => k_asm); (case kT => k_asm); (case kS => assumption); (case k6 => k_is); (case k7 => k_is); (case k8 => ktr_room); (case k9 => exact BindsTo.of_eq rfl); (case c5 => decide); (case kB => exact locs rfl); (case c2 => exact rfl); (case c3 => exact rfl); (case c4 => exact rfl); (case kK => assumption); k_whole; intro L' oL h' C' Fs' hneL F' N' l1; k_lt l1; (try dsimp only); (try k_fold))
  refine sealG fun GG5 hGG5 => ?_
  obtain ⟨led, hled⟩ : ∃ led, led = news ++ (L, oL) :: frs := ⟨_, rfl⟩
  refine hGG5 ?_
  rw [← hled] at N'
  have hp2 : (p, ({ cls := .type "list", data := .seq #[lv] n } : Obj)) ∈ led := by rw [hled]; exact List.mem_append_left _ hp
  have hndL := nodup_mid hnd hneL (oL := oL)
  repeat' ((fail_if_success (with_reducible show wpAny _ _ (assign (Expr.Tuple _ _ _) _ _) _ _ _)); (first | (k_unfold; (try dsimp only)) | (k_end; wrow_close) | ((with_reducible show wpAny _ _ (exec _ _) _ _ { heap := _, gens := _, drawn := _, toks := _ + 1, os := _ }); refine genT ?_; intro __tkT) | ((with_reducible show wpAny _ _ (exec _ _) _ _ _); refine sealQ ?_; intro qQ; walk1) | walk1 | (dsimp only; walk1) | (leave1; try dsimp only)))
  k_dflt (refine unpack_few rfl (by exact ⟨_, (N' _ hp2).1, rfl, _, rfl⟩) rfl rfl ?_)
  intro h1 h1' tk1 e1 kp1 hx1
  have F1 := F'.keeps kp1
  have N1 := N'.grown kp1
  repeat' ((fail_if_success (with_reducible show wpAny _ _ (noteFrame _ _) _ _ _)); (first | (k_unfold; (try dsimp only)) | (k_end; wrow_close) | ((with_reducible show wpAny _ _ (exec _ _) _ _ { heap := _, gens := _, drawn := _, toks := _ + 1, os := _ }); refine genT ?_; intro __tkT) | ((with_reducible show wpAny _ _ (exec _ _) _ _ _); refine sealQ ?_; intro qQ; walk1) | walk1 | (dsimp only; walk1) | (leave1; try dsimp only)))
  refine sealG fun GG6 hGG6 => ?_
  subst hled
  refine hGG6 ?_
  k_dflt (refine catch_B (l := envX cn cs L a ccd cl :: outer) rfl Fs' hx1 F1 N1 hndL X (topRead_of T) (by kts_test) ?_)
  intro h2 frs2 u2 Fs2 F2 N2 hb2 hen2
  repeat' ((fail_if_success (with_reducible show wpAny _ _ (exec (Stmt.Raise _ _ _) _) _ _ _)); (first | (k_unfold; (try dsimp only)) | (k_end; wrow_close) | ((with_reducible show wpAny _ _ (exec _ _) _ _ { heap := _, gens := _, drawn := _, toks := _ + 1, os := _ }); refine genT ?_; intro __tkT) | ((with_reducible show wpAny _ _ (exec _ _) _ _ _); refine sealQ ?_; intro qQ; walk1) | walk1 | (dsimp only; walk1) | (leave1; try dsimp only)))
  k_dflt (refine raise_from_none PySem.F.excRaise_TypeError rfl ?_)
  repeat' ((fail_if_success (with_reducible show wpAny _ _ (PySem.call (Value.type "TypeError") _ _) _ _ _)); (first | (k_unfold; (try dsimp only)) | (k_end; wrow_close) | ((with_reducible show wpAny _ _ (exec _ _) _ _ { heap := _, gens := _, drawn := _, toks := _ + 1, os := _ }); refine genT ?_; intro __tkT) | ((with_reducible show wpAny _ _ (exec _ _) _ _ _); refine sealQ ?_; intro qQ; walk1) | walk1 | (dsimp only; walk1) | (leave1; try dsimp only)))
  k_dflt (refine wpAny_call_exc PySem.F.excCall_TypeError ?_)
  intro h3 e3 hm3
  refine sealG fun GG7 hGG7 => ?_
  obtain ⟨t3, he3, _, _⟩ := hm3.there
  obtain ⟨ob2, vs2, x1, x2, x3⟩ := hb2
  refine hGG7 ?_
  have hne3 : e3 ≠ e1 := fun q => by
    have := hm3.new
    rw [q] at this
    rw [show _ = some ob2 from x1] at this; cases this
  refine ⟨e3, t3, rfl, he3, ⟨ob2, vs2, hm3.keeps _ _ x1, x2, x3⟩, hne3, fun h4 ho4 hob4 => ?_⟩
  refine sealG fun GG8 hGG8 => ?_
  obtain ⟨ob4, vs4, y1, y2, y3, y4, y5⟩ := hob4
  refine hGG8 ?_
  have hx4 : NewV h2 h4 e3 (.type "TypeError") := ⟨fun b o hbo => (ho4 b fun q => by rw [q] at hbo; have := hm3.new; rw [show _ = some o from hbo] at this; cases this).trans (hm3.keeps b o hbo), hm3.new, ob4, vs4, _, y1, y2, y3, y4, y5⟩
  repeat' ((fail_if_success (with_reducible show wpAny _ _ (leaving _ _) _ _ _)); (first | (k_unfold; (try dsimp only)) | (k_end; wrow_close) | ((with_reducible show wpAny _ _ (exec _ _) _ _ { heap := _, gens := _, drawn := _, toks := _ + 1, os := _ }); refine genT ?_; intro __tkT) | ((with_reducible show wpAny _ _ (exec _ _) _ _ _); refine sealQ ?_; intro qQ; walk1) | walk1 | (dsimp only; walk1) | (leave1; try dsimp only)))
  k_dflt (refine leave_V (l := outer) rfl C' Fs' u2 hx4 F2 N2 (by rw [List.map_append, sameUp_fst u2, ← List.map_append]; exact hndL) (fun p hp => (N p (List.mem_append_right _ hp)).2.2) ?_)
  intro h5 hR5
  repeat' ((first | (k_unfold; (try dsimp only)) | (k_end; wrow_close) | ((with_reducible show wpAny _ _ (exec _ _) _ _ { heap := _, gens := _, drawn := _, toks := _ + 1, os := _ }); refine genT ?_; intro __tkT) | ((with_reducible show wpAny _ _ (exec _ _) _ _ _); refine sealQ ?_; intro qQ; walk1) | walk1 | (dsimp only; walk1) | (leave1; try dsimp only)))
  exact rai _ _ _ hR5
set_option pp.maxSteps 4000 in
theorem build7 (F : Fr h₀ L s.heap m) (X : (hd.heap_1 w.params).In h₀) (N : News h₀ L s.heap (news ++ frs)) (T : Top hd.view_1 (looseW hd.view_1 [Str.ofString "_NodeInfo"]) (ExcName.means s₀.heap) mg mb h₀) (Fs : Frs outer frs) (hk : cs.kind = .function) (hnd : ((news ++ frs).map (·.1)).Nodup)
    {p : Addr} {n : Nat} {x : Str} {k1 k2 : Tok} 
    (hp : (p, ({ cls := .type "tuple", data := .seq #[.str x k1, .int 7 k2] n } : Obj)) ∈ news) (hx : x.length ≤ 100) (hd : dp + 60 < recursionLimit) (hu : un + 100 < cLine)
    (rai : ∀ h' tk' e, Raised h₀ L m (envX cn cs L a ccd cl) outer news frs e (.type "TypeError") h' → E (.ref e) { s with heap := h', toks := tk' })
    : wpAny (model (PySem.Challenge.rw_mr0291_01.row.prog) w) (ktrTop dp un gd cn cs L a ccd cl outer) (call (.ref 28) [.ref p]) Q E s := by
  revert X; k_fill; intro X
  have hp' := List.mem_append_left frs hp
  refine wpAny_call ?_
  k_dflt (refine' code_T (binds := [(Str.ofString "localetuple", .ref p)]) (cn := cn) (cs := cs) (a := a) (ccd := ccd) (ccl := cl) ?kF ?kX ?kN ?kT ?kS ?k6 ?k7 ?k8 ?k9 ?kB ?_ ?kK ?c2 ?c3 ?c4 ?c5; (case kF => k_asm); (case kX => k_asm); (case kN => k_asm); (case kT => k_asm); (case kS => assumption); (case k6 => k_is); (case k7 => k_is); (case k8 => ktr_room); (case k9 => exact BindsTo.of_eq rfl); (case c5 => decide); (case kB => exact locs rfl); (case c2 => exact rfl); (case c3 => exact rfl); (case c4 => exact rfl); (case kK => assumption); k_whole; intro L' oL h' C' Fs' hneL F' N' l1; k_lt l1; (try dsimp only); (try k_fold))
  refine sealG fun GG9 hGG9 => ?_
  obtain ⟨led, hled⟩ : ∃ led, led = news ++ (L, oL) :: frs := ⟨_, rfl⟩
  refine hGG9 ?_
  rw [← hled] at N'
  have hp2 : (p, ({ cls := .type "tuple", data := .seq #[.str x k1, .int 7 k2] n } : Obj)) ∈ led := by rw [hled]; exact List.mem_append_left _ hp
  have hndL := nodup_mid hnd hneL (oL := oL)
  repeat' ((fail_if_success (with_reducible show wpAny _ _ (binaryOp _ _ (Value.int _ _)) _ _ _)); (first | (k_unfold; (try dsimp only)) | (k_end; wrow_close) | ((with_reducible show wpAny _ _ (exec _ _) _ _ { heap := _, gens := _, drawn := _, toks := _ + 1, os := _ }); refine genT ?_; intro __tkT) | ((with_reducible show wpAny _ _ (exec _ _) _ _ _); refine sealQ ?_; intro qQ; walk1) | walk1 | (dsimp only; walk1) | (leave1; try dsimp only)))
  k_dflt (refine add_str_int (A := _) (by with_unfolding_all rfl) ?_)
  intro h1' tk1 e1 hx1
  rename Fr h₀ L' _ _ => F1
  rename News h₀ L' _ _ => N1
  repeat' ((fail_if_success (with_reducible show wpAny _ _ (noteFrame _ _) _ _ _)); (first | (k_unfold; (try dsimp only)) | (k_end; wrow_close) | ((with_reducible show wpAny _ _ (exec _ _) _ _ { heap := _, gens := _, drawn := _, toks := _ + 1, os := _ }); refine genT ?_; intro __tkT) | ((with_reducible show wpAny _ _ (exec _ _) _ _ _); refine sealQ ?_; intro qQ; walk1) | walk1 | (dsimp only; walk1) | (leave1; try dsimp only)))
  refine sealG fun GG10 hGG10 => ?_
  subst hled
  refine hGG10 ?_
  k_dflt (refine catch_B (l := envX cn cs L a ccd cl :: outer) rfl Fs' hx1 F1 N1 hndL X (topRead_of T) (by kts_test) ?_)
  intro h2 frs2 u2 Fs2 F2 N2 hb2 hen2
  repeat' ((fail_if_success (with_reducible show wpAny _ _ (exec (Stmt.Raise _ _ _) _) _ _ _)); (first | (k_unfold; (try dsimp only)) | (k_end; wrow_close) | ((with_reducible show wpAny _ _ (exec _ _) _ _ { heap := _, gens := _, drawn := _, toks := _ + 1, os := _ }); refine genT ?_; intro __tkT) | ((with_reducible show wpAny _ _ (exec _ _) _ _ _); refine sealQ ?_; intro qQ; walk1) | walk1 | (dsimp only; walk1) | (leave1; try dsimp only)))
  k_dflt (refine raise_from_none PySem.F.excRaise_TypeError rfl ?_)
  repeat' ((fail_if_success (with_reducible show wpAny _ _ (PySem.call (Value.type "TypeError") _ _) _ _ _)); (first | (k_unfold; (try dsimp only)) | (k_end; wrow_close) | ((with_reducible show wpAny _ _ (exec _ _) _ _ { heap := _, gens := _, drawn := _, toks := _ + 1, os := _ }); refine genT ?_; intro __tkT) | ((with_reducible show wpAny _ _ (exec _ _) _ _ _); refine sealQ ?_; intro qQ; walk1) | walk1 | (dsimp only; walk1) | (leave1; try dsimp only)))
  k_dflt (refine wpAny_call_exc PySem.F.excCall_TypeError ?_)
  intro h3 e3 hm3
  refine sealG fun GG11 hGG11 => ?_
  obtain ⟨t3, he3, _, _⟩ := hm3.there
  obtain ⟨ob2, vs2, x1, x2, x3⟩ := hb2
  refine hGG11 ?_
  have hne3 : e3 ≠ e1 := fun q => by
    have := hm3.new
    rw [q] at this
    rw [show _ = some ob2 from x1] at this; cases this
  refine ⟨e3, t3, rfl, he3, ⟨ob2, vs2, hm3.keeps _ _ x1, x2, x3⟩, hne3, fun h4 ho4 hob4 => ?_⟩
  refine sealG fun GG12 hGG12 => ?_
  obtain ⟨ob4, vs4, y1, y2, y3, y4, y5⟩ := hob4
  refine hGG12 ?_
  have hx4 : NewV h2 h4 e3 (.type "TypeError") := ⟨fun b o hbo => (ho4 b fun q => by rw [q] at hbo; have := hm3.new; rw [show _ = some o from hbo] at this; cases this).trans (hm3.keeps b o hbo), hm3.new, ob4, vs4, _, y1, y2, y3, y4, y5⟩
  repeat' ((fail_if_success (with_reducible show wpAny _ _ (leaving _ _) _ _ _)); (first | (k_unfold; (try dsimp only)) | (k_end; wrow_close) | ((with_reducible show wpAny _ _ (exec _ _) _ _ { heap := _, gens := _, drawn := _, toks := _ + 1, os := _ }); refine genT ?_; intro __tkT) | ((with_reducible show wpAny _ _ (exec _ _) _ _ _); refine sealQ ?_; intro qQ; walk1) | walk1 | (dsimp only; walk1) | (leave1; try dsimp only)))
  k_dflt (refine leave_V (l := outer) rfl C' Fs' u2 hx4 F2 N2 (by rw [List.map_append, sameUp_fst u2, ← List.map_append]; exact hndL) (fun p hp => (N p (List.mem_append_right _ hp)).2.2) ?_)
  intro h5 hR5
  repeat' ((first | (k_unfold; (try dsimp only)) | (k_end; wrow_close) | ((with_reducible show wpAny _ _ (exec _ _) _ _ { heap := _, gens := _, drawn := _, toks := _ + 1, os := _ }); refine genT ?_; intro __tkT) | ((with_reducible show wpAny _ _ (exec _ _) _ _ _); refine sealQ ?_; intro qQ; walk1) | walk1 | (dsimp only; walk1) | (leave1; try dsimp only)))
  exact rai _ _ _ hR5
set_option pp.maxSteps 4000 in
theorem build7n (F : Fr h₀ L s.heap m) (X : (hd.heap_1 w.params).In h₀) (N : News h₀ L s.heap (news ++ frs)) (T : Top hd.view_1 (looseW hd.view_1 [Str.ofString "_NodeInfo"]) (ExcName.means s₀.heap) mg mb h₀) (Fs : Frs outer frs) (hk : cs.kind = .function) (hnd : ((news ++ frs).map (·.1)).Nodup)
    {p : Addr} {n : Nat} {x : Str} {k1 k2 : Tok} 
    (hp : (p, ({ cls := .type "tuple", data := .seq #[.none, .int 7 k2] n } : Obj)) ∈ news) (hx : x.length ≤ 100) (hd : dp + 60 < recursionLimit) (hu : un + 100 < cLine)
    (rai : ∀ h' tk' e, Raised h₀ L m (envX cn cs L a ccd cl) outer news frs e (.type "TypeError") h' → E (.ref e) { s with heap := h', toks := tk' })
    : wpAny (model (PySem.Challenge.rw_mr0291_01.row.prog) w) (ktrTop dp un gd cn cs L a ccd cl outer) (call (.ref 28) [.ref p]) Q E s := by
  revert X; k_fill; intro X
  have hp' := List.mem_append_left frs hp
  refine wpAny_call ?_
  k_dflt (refine' code_T (binds := [(Str.ofString "localetuple", .ref p)]) (cn := cn) (cs := cs) (a := a) (ccd := ccd) (ccl := cl) ?kF ?kX ?kN ?kT ?kS ?k6 ?k7 ?k8 ?k9 ?kB ?_ ?kK ?c2 ?c3 ?c4 ?c5; (case kF => k_asm); (case kX => k_asm); (case kN => k_asm); (case kT => k_asm); (case kS => assumption); (case k6 => k_is); (case k7 => k_is); (case k8 => ktr_room); (case k9 => exact BindsTo.of_eq rfl); (case c5 => decide); (case kB => exact locs rfl); (case c2 => exact rfl); (case c3 => exact rfl); (case c4 => exact rfl); (case kK => assumption); k_whole; intro L' oL h' C' Fs' hneL F' N' l1; k_lt l1; (try dsimp only); (try k_fold))
  refine sealG fun GG13 hGG13 => ?_
  obtain ⟨led, hled⟩ : ∃ led, led = news ++ (L, oL) :: frs := ⟨_, rfl⟩
  refine hGG13 ?_
  rw [← hled] at N'
  have hp2 : (p, ({ cls := .type "tuple", data := .seq #[.none, .int 7 k2] n } : Obj)) ∈ led := by rw [hled]; exact List.mem_append_left _ hp
  have hndL := nodup_mid hnd hneL (oL := oL)
  repeat' ((fail_if_success (with_reducible show wpAny _ _ (binaryOp _ _ (Value.int _ _)) _ _ _)); (first | (k_unfold; (try dsimp only)) | (k_end; wrow_close) | ((with_reducible show wpAny _ _ (exec _ _) _ _ { heap := _, gens := _, drawn := _, toks := _ + 1, os := _ }); refine genT ?_; intro __tkT) | ((with_reducible show wpAny _ _ (exec _ _) _ _ _); refine sealQ ?_; intro qQ; walk1) | walk1 | (dsimp only; walk1) | (leave1; try dsimp only)))
  k_dflt (refine add_str_int (A := _) (by with_unfolding_all rfl) ?_)
  intro h1' tk1 e1 hx1
  rename Fr h₀ L' _ _ => F1
  rename News h₀ L' _ _ => N1
  repeat' ((fail_if_success (with_reducible show wpAny _ _ (noteFrame _ _) _ _ _)); (first | (k_unfold; (try dsimp only)) | (k_end; wrow_close) | ((with_reducible show wpAny _ _ (exec _ _) _ _ { heap := _, gens := _, drawn := _, toks := _ + 1, os := _ }); refine genT ?_; intro __tkT) | ((with_reducible show wpAny _ _ (exec _ _) _ _ _); refine sealQ ?_; intro qQ; walk1) | walk1 | (dsimp only; walk1) | (leave1; try dsimp only)))
  refine sealG fun GG14 hGG14 => ?_
  subst hled
  refine hGG14 ?_
  k_dflt (refine catch_B (l := envX cn cs L a ccd cl :: outer) rfl Fs' hx1 F1 N1 hndL X (topRead_of T) (by kts_test) ?_)
  intro h2 frs2 u2 Fs2 F2 N2 hb2 hen2
  repeat' ((fail_if_success (with_reducible show wpAny _ _ (exec (Stmt.Raise _ _ _) _) _ _ _)); (first | (k_unfold; (try dsimp only)) | (k_end; wrow_close) | ((with_reducible show wpAny _ _ (exec _ _) _ _ { heap := _, gens := _, drawn := _, toks := _ + 1, os := _ }); refine genT ?_; intro __tkT) | ((with_reducible show wpAny _ _ (exec _ _) _ _ _); refine sealQ ?_; intro qQ; walk1) | walk1 | (dsimp only; walk1) | (leave1; try dsimp only)))
  k_dflt (refine raise_from_none PySem.F.excRaise_TypeError rfl ?_)
  repeat' ((fail_if_success (with_reducible show wpAny _ _ (PySem.call (Value.type "TypeError") _ _) _ _ _)); (first | (k_unfold; (try dsimp only)) | (k_end; wrow_close) | ((with_reducible show wpAny _ _ (exec _ _) _ _ { heap := _, gens := _, drawn := _, toks := _ + 1, os := _ }); refine genT ?_; intro __tkT) | ((with_reducible show wpAny _ _ (exec _ _) _ _ _); refine sealQ ?_; intro qQ; walk1) | walk1 | (dsimp only; walk1) | (leave1; try dsimp only)))
  k_dflt (refine wpAny_call_exc PySem.F.excCall_TypeError ?_)
  intro h3 e3 hm3
  refine sealG fun GG15 hGG15 => ?_
  obtain ⟨t3, he3, _, _⟩ := hm3.there
  obtain ⟨ob2, vs2, x1, x2, x3⟩ := hb2
  refine hGG15 ?_
  have hne3 : e3 ≠ e1 := fun q => by
    have := hm3.new
    rw [q] at this
    rw [show _ = some ob2 from x1] at this; cases this
  refine ⟨e3, t3, rfl, he3, ⟨ob2, vs2, hm3.keeps _ _ x1, x2, x3⟩, hne3, fun h4 ho4 hob4 => ?_⟩
  refine sealG fun GG16 hGG16 => ?_
  obtain ⟨ob4, vs4, y1, y2, y3, y4, y5⟩ := hob4
  refine hGG16 ?_
  have hx4 : NewV h2 h4 e3 (.type "TypeError") := ⟨fun b o hbo => (ho4 b fun q => by rw [q] at hbo; have := hm3.new; rw [show _ = some o from hbo] at this; cases this).trans (hm3.keeps b o hbo), hm3.new, ob4, vs4, _, y1, y2, y3, y4, y5⟩
  repeat' ((fail_if_success (with_reducible show wpAny _ _ (leaving _ _) _ _ _)); (first | (k_unfold; (try dsimp only)) | (k_end; wrow_close) | ((with_reducible show wpAny _ _ (exec _ _) _ _ { heap := _, gens := _, drawn := _, toks := _ + 1, os := _ }); refine genT ?_; intro __tkT) | ((with_reducible show wpAny _ _ (exec _ _) _ _ _); refine sealQ ?_; intro qQ; walk1) | walk1 | (dsimp only; walk1) | (leave1; try dsimp only)))
  k_dflt (refine leave_V (l := outer) rfl C' Fs' u2 hx4 F2 N2 (by rw [List.map_append, sameUp_fst u2, ← List.map_append]; exact hndL) (fun p hp => (N p (List.mem_append_right _ hp)).2.2) ?_)
  intro h5 hR5
  repeat' ((first | (k_unfold; (try dsimp only)) | (k_end; wrow_close) | ((with_reducible show wpAny _ _ (exec _ _) _ _ { heap := _, gens := _, drawn := _, toks := _ + 1, os := _ }); refine genT ?_; intro __tkT) | ((with_reducible show wpAny _ _ (exec _ _) _ _ _); refine sealQ ?_; intro qQ; walk1) | walk1 | (dsimp only; walk1) | (leave1; try dsimp only)))
  exact rai _ _ _ hR5
end

end
section
local macro_rules | `(tactic| walk_at "none") => `(tactic| fail)
theorem offG8 : True := by
  w_top off
  trivial
open PySem PySem.W PyProof.Rows PyProof.Rows.TI
set_option maxRecDepth 100000
set_option maxHeartbeats 8000000
section
variable {w : World} {s₀ : Shared} {mg mb : Str → Option Value} {dp un : Nat} {gd : Option (List Code)} {cn : Str} {cs : Scope} {a : Addr} {ccd : Value} {cl : List (Str × Addr)} {outer : List Env} {h₀ : Heap} {L : Addr} {m : Str → Option Value} {news frs : List (Addr × Obj)} {s : Shared} {Q E : Value → Shared → Prop}
set_option pp.maxSteps 4000 in
theorem told3 (F : Fr h₀ L s.heap m) (X : (hd.heap_1 w.params).In h₀) (N : News h₀ L s.heap (news ++ frs)) (T : Top hd.view_1 (looseW hd.view_1 [Str.ofString "_NodeInfo"]) (ExcName.means s₀.heap) mg mb h₀) (Fs : Frs outer frs) (hk : cs.kind = .function) (hnd : ((news ++ frs).map (·.1)).Nodup)
    {p : Addr} {n : Nat} {x : Str} {k1 k2 : Tok} {ov : Value} {lv ev : Value}
    (hp : (p, ({ cls := .type "tuple", data := .seq #[lv, ev, .none] n } : Obj)) ∈ news) (hx : x.length ≤ 100) (hd : dp + 80 < recursionLimit) (hu : un + 200 < cLine)
    (ret : ∀ h' tk' frs', SameUp frs frs' → Frs outer frs' → Fr h₀ L h' m → News h₀ L h' (news ++ frs') → ((news ++ frs').map (·.1)).Nodup → Q .none { s with heap := h', toks := tk' })
    : wpAny (model (PySem.Challenge.rw_mr0291_01.row.prog) w) (ktrTop dp un gd cn cs L a ccd cl outer) (call (.ref 162) [.ref p, ov]) Q E s := by
  revert X; k_fill; intro X
  refine wpAny_call ?_
  k_dflt (refine' code_T (binds := [(Str.ofString "pair", .ref p), (Str.ofString "other", ov)]) (cn := cn) (cs := cs) (a := a) (ccd := ccd) (ccl := cl) ?kF ?kX ?kN ?kT ?kS ?k6 ?k7 ?k8 ?k9 ?kB ?_ ?kK ?c2 ?c3 ?c4 ?c5; (case kF => k_asm); (case kX => k_asm); (case kN => k_asm); (case kT => k_asm); (case kS => assumption); (case k6 => k_is); (case k7 => k_is); (case k8 => ktr_room); (case k9 => exact BindsTo.of_eq rfl); (case c5 => decide); (case kB => exact locs rfl); (case c2 => exact rfl); (case c3 => exact rfl); (case c4 => exact rfl); (case kK => assumption); k_whole; intro L' oL h' C' Fs' hneL F' N' l1; k_lt l1; (try dsimp only); (try k_fold))
  have hndL := nodup_mid hnd hneL (oL := oL)
  repeat' ((fail_if_success (with_reducible show wpAny _ _ (PySem.call (Value.ref 28) _ _) _ _ _)); (first | (k_unfold; (try dsimp only)) | (k_end; wrow_close) | ((with_reducible show wpAny _ _ (exec _ _) _ _ { heap := _, gens := _, drawn := _, toks := _ + 1, os := _ }); refine genT ?_; intro __tkT) | ((with_reducible show wpAny _ _ (exec _ _) _ _ _); refine sealQ ?_; intro qQ; walk1) | walk1 | (dsimp only; walk1) | (leave1; try dsimp only)))
  k_dflt (refine' build3 (s₀ := s₀) (x := x) (k1 := k1) (k2 := k2) (frs := (L, oL) :: frs) (news := news) ?kF ?kX ?kN ?kT ?kFs ?kk ?knd ?khp ?khx ?khd ?khu ?_; (case kF => k_asm); (case kX => k_asm); (case kN => k_asm); (case kT => k_asm); (case kFs => assumption); (case kk => exact rfl); (case knd => assumption); (case khp => assumption); (case khx => assumption); (case khd => ktr_room); (case khu => ktr_units))
  intro h2 tk2 e2 hR2
  refine sealG fun GG1 hGG1 => ?_
  obtain ⟨B2, oL2, fs2, a02, H2, C2, u2, hB2, hN2, hF2⟩ := hR2
  refine hGG1 ?_
  repeat' ((fail_if_success (with_reducible show wpAny _ _ (noteFrame _ _) _ _ _)); (first | (k_unfold; (try dsimp only)) | (k_end; wrow_close) | ((with_reducible show wpAny _ _ (exec _ _) _ _ { heap := _, gens := _, drawn := _, toks := _ + 1, os := _ }); refine genT ?_; intro __tkT) | ((with_reducible show wpAny _ _ (exec _ _) _ _ _); refine sealQ ?_; intro qQ; walk1) | walk1 | (dsimp only; walk1) | (leave1; try dsimp only)))
  k_dflt (refine catch_on (l := envX cn cs L a ccd cl :: outer) H2 rfl C2 u2 hB2 hN2 hF2 X (topRead_of T) (by kts_test) ?_)
  intro h3 frs3 u3 Fs3 F3 N3
  repeat' ((first | (k_unfold; (try dsimp only)) | (k_end; wrow_close) | ((with_reducible show wpAny _ _ (exec _ _) _ _ { heap := _, gens := _, drawn := _, toks := _ + 1, os := _ }); refine genT ?_; intro __tkT) | ((with_reducible show wpAny _ _ (exec _ _) _ _ _); refine sealQ ?_; intro qQ; walk1) | walk1 | (dsimp only; walk1) | (leave1; try dsimp only)))
  refine sealG fun GG2 hGG2 => ?_
  obtain ⟨frs5, u5, f5, F5, N5, nd5⟩ := back_T C' F3 N3 u3 (by rw [List.map_append, sameUp_fst u3, ← List.map_append]; exact hndL) Fs3
  refine hGG2 ?_
  exact ret _ _ frs5 u5 f5 F5 N5 nd5
set_option pp.maxSteps 4000 in
theorem told1 (F : Fr h₀ L s.heap m) (X : (hd.heap_1 w.params).In h₀) (N : News h₀ L s.heap (news ++ frs)) (T : Top hd.view_1 (looseW hd.view_1 [Str.ofString "_NodeInfo"]) (ExcName.means s₀.heap) mg mb h₀) (Fs : Frs outer frs) (hk : cs.kind = .function) (hnd : ((news ++ frs).map (·.1)).Nodup)
    {p : Addr} {n : Nat} {x : Str} {k1 k2 : Tok} {ov : Value} {lv : Value}
    (hp : (p, ({ cls := .type "list", data := .seq #[lv] n } : Obj)) ∈ news) (hx : x.length ≤ 100) (hd : dp + 80 < recursionLimit) (hu : un + 200 < cLine)
    (ret : ∀ h' tk' frs', SameUp frs frs' → Frs outer frs' → Fr h₀ L h' m → News h₀ L h' (news ++ frs') → ((news ++ frs').map (·.1)).Nodup → Q .none { s with heap := h', toks := tk' })
    : wpAny (model (PySem.Challenge.rw_mr0291_01.row.prog) w) (ktrTop dp un gd cn cs L a ccd cl outer) (call (.ref 162) [.ref p, ov]) Q E s := by
  revert X; k_fill; intro X
  refine wpAny_call ?_
  k_dflt (refine' code_T (binds := [(Str.ofString "pair", .ref p), (Str.ofString "other", ov)]) (cn := cn) (cs := cs) (a := a) (ccd := ccd) (ccl := cl) ?kF ?kX ?kN ?kT ?kS ?k6 ?k7 ?k8 ?k9 ?kB ?_ ?kK ?c2 ?c3 ?c4 ?c5; (case kF => k_asm); (case kX => k_asm); (case kN => k_asm); (case kT => k_asm); (case kS => assumption); (case k6 => k_is); (case k7 => k_is); (case k8 => ktr_room); (case k9 => exact BindsTo.of_eq rfl); (case c5 => decide); (case kB => exact locs rfl); (case c2 => exact rfl); (case c3 => exact rfl); (case c4 => exact rfl); (case kK => assumption); k_whole; intro L' oL h' C' Fs' hneL F' N' l1; k_lt l1; (try dsimp only); (try k_fold))
  have hndL := nodup_mid hnd hneL (oL := oL)
  repeat' ((fail_if_success (with_reducible show wpAny _ _ (PySem.call (Value.ref 28) _ _) _ _ _)); (first | (k_unfold; (try dsimp only)) | (k_end; wrow_close) | ((with_reducible show wpAny _ _ (exec _ _) _ _ { heap := _, gens := _, drawn := _, toks := _ + 1, os := _ }); refine genT ?_; intro __tkT) | ((with_reducible show wpAny _ _ (exec _ _) _ _ _); refine sealQ ?_; intro qQ; walk1) | walk1 | (dsimp only; walk1) | (leave1; try dsimp only)))
  k_dflt (refine' build1 (s₀ := s₀) (x := x) (k1 := k1) (k2 := k2) (frs := (L, oL) :: frs) (news := news) ?kF ?kX ?kN ?kT ?kFs ?kk ?knd ?khp ?khx ?khd ?khu ?_; (case kF => k_asm); (case kX => k_asm); (case kN => k_asm); (case kT => k_asm); (case kFs => assumption); (case kk => exact rfl); (case knd => assumption); (case khp => assumption); (case khx => assumption); (case khd => ktr_room); (case khu => ktr_units))
  intro h2 tk2 e2 hR2
  refine sealG fun GG3 hGG3 => ?_
  obtain ⟨B2, oL2, fs2, a02, H2, C2, u2, hB2, hN2, hF2⟩ := hR2
  refine hGG3 ?_
  repeat' ((fail_if_success (with_reducible show wpAny _ _ (noteFrame _ _) _ _ _)); (first | (k_unfold; (try dsimp only)) | (k_end; wrow_close) | ((with_reducible show wpAny _ _ (exec _ _) _ _ { heap := _, gens := _, drawn := _, toks := _ + 1, os := _ }); refine genT ?_; intro __tkT) | ((with_reducible show wpAny _ _ (exec _ _) _ _ _); refine sealQ ?_; intro qQ; walk1) | walk1 | (dsimp only; walk1) | (leave1; try dsimp only)))
  k_dflt (refine catch_on (l := envX cn cs L a ccd cl :: outer) H2 rfl C2 u2 hB2 hN2 hF2 X (topRead_of T) (by kts_test) ?_)
  intro h3 frs3 u3 Fs3 F3 N3
  repeat' ((first | (k_unfold; (try dsimp only)) | (k_end; wrow_close) | ((with_reducible show wpAny _ _ (exec _ _) _ _ { heap := _, gens := _, drawn := _, toks := _ + 1, os := _ }); refine genT ?_; intro __tkT) | ((with_reducible show wpAny _ _ (exec _ _) _ _ _); refine sealQ ?_; intro qQ; walk1) | walk1 | (dsimp only; walk1) | (leave1; try dsimp only)))
  refine sealG fun GG4 hGG4 => ?_
  obtain ⟨frs5, u5, f5, F5, N5, nd5⟩ := back_T C' F3 N3 u3 (by rw [List.map_append, sameUp_fst u3, ← List.map_append]; exact hndL) Fs3
  refine hGG4 ?_
  exact ret _ _ frs5 u5 f5 F5 N5 nd5
set_option pp.maxSteps 4000 in
theorem told7 (F : Fr h₀ L s.heap m) (X : (hd.heap_1 w.params).In h₀) (N : News h₀ L s.heap (news ++ frs)) (T : Top hd.view_1 (looseW hd.view_1 [Str.ofString "_NodeInfo"]) (ExcName.means s₀.heap) mg mb h₀) (Fs : Frs outer frs) (hk : cs.kind = .function) (hnd : ((news ++ frs).map (·.1)).Nodup)
    {p : Addr} {n : Nat} {x : Str} {k1 k2 : Tok} {ov : Value} 
    (hp : (p, ({ cls := .type "tuple", data := .seq #[.str x k1, .int 7 k2] n } : Obj)) ∈ news) (hx : x.length ≤ 100) (hd : dp + 80 < recursionLimit) (hu : un + 200 < cLine)
    (ret : ∀ h' tk' frs', SameUp frs frs' → Frs outer frs' → Fr h₀ L h' m → News h₀ L h' (news ++ frs') → ((news ++ frs').map (·.1)).Nodup → Q .none { s with heap := h', toks := tk' })
    : wpAny (model (PySem.Challenge.rw_mr0291_01.row.prog) w) (ktrTop dp un gd cn cs L a ccd cl outer) (call (.ref 162) [.ref p, ov]) Q E s := by
  revert X; k_fill; intro X
  refine wpAny_call ?_
  k_dflt (refine' code_T (binds := [(Str.ofString "pair", .ref p), (Str.ofString "other", ov)]) (cn := cn) (cs := cs) (a := a) (ccd := ccd) (ccl := cl) ?kF ?kX ?kN ?kT ?kS ?k6 ?k7 ?k8 ?k9 ?kB ?_ ?kK ?c2 ?c3 ?c4 ?c5; (case kF => k_asm); (case kX => k_asm); (case kN => k_asm); (case kT => k_asm); (case kS => assumption); (case k6 => k_is); (case k7 => k_is); (case k8 => ktr_room); (case k9 => exact BindsTo.of_eq rfl); (case c5 => decide); (case kB => exact locs rfl); (case c2 => exact rfl); (case c3 => exact rfl); (case c4 => exact rfl); (case kK => assumption); k_whole; intro L' oL h' C' Fs' hneL F' N' l1; k_lt l1; (try dsimp only); (try k_fold))
  have hndL := nodup_mid hnd hneL (oL := oL)
  repeat' ((fail_if_success (with_reducible show wpAny _ _ (PySem.call (Value.ref 28) _ _) _ _ _)); (first | (k_unfold; (try dsimp only)) | (k_end; wrow_close) | ((with_reducible show wpAny _ _ (exec _ _) _ _ { heap := _, gens := _, drawn := _, toks := _ + 1, os := _ }); refine genT ?_; intro __tkT) | ((with_reducible show wpAny _ _ (exec _ _) _ _ _); refine sealQ ?_; intro qQ; walk1) | walk1 | (dsimp only; walk1) | (leave1; try dsimp only)))
  k_dflt (refine' build7 (s₀ := s₀) (x := x) (k1 := k1) (k2 := k2) (frs := (L, oL) :: frs) (news := news) ?kF ?kX ?kN ?kT ?kFs ?kk ?knd ?khp ?khx ?khd ?khu ?_; (case kF => k_asm); (case kX => k_asm); (case kN => k_asm); (case kT => k_asm); (case kFs => assumption); (case kk => exact rfl); (case knd => assumption); (case khp => assumption); (case khx => assumption); (case khd => ktr_room); (case khu => ktr_units))
  intro h2 tk2 e2 hR2
  refine sealG fun GG5 hGG5 => ?_
  obtain ⟨B2, oL2, fs2, a02, H2, C2, u2, hB2, hN2, hF2⟩ := hR2
  refine hGG5 ?_
  repeat' ((fail_if_success (with_reducible show wpAny _ _ (noteFrame _ _) _ _ _)); (first | (k_unfold; (try dsimp only)) | (k_end; wrow_close) | ((with_reducible show wpAny _ _ (exec _ _) _ _ { heap := _, gens := _, drawn := _, toks := _ + 1, os := _ }); refine genT ?_; intro __tkT) | ((with_reducible show wpAny _ _ (exec _ _) _ _ _); refine sealQ ?_; intro qQ; walk1) | walk1 | (dsimp only; walk1) | (leave1; try dsimp only)))
  k_dflt (refine catch_on (l := envX cn cs L a ccd cl :: outer) H2 rfl C2 u2 hB2 hN2 hF2 X (topRead_of T) (by kts_test) ?_)
  intro h3 frs3 u3 Fs3 F3 N3
  repeat' ((first | (k_unfold; (try dsimp only)) | (k_end; wrow_close) | ((with_reducible show wpAny _ _ (exec _ _) _ _ { heap := _, gens := _, drawn := _, toks := _ + 1, os := _ }); refine genT ?_; intro __tkT) | ((with_reducible show wpAny _ _ (exec _ _) _ _ _); refine sealQ ?_; intro qQ; walk1) | walk1 | (dsimp only; walk1) | (leave1; try dsimp only)))
  refine sealG fun GG6 hGG6 => ?_
  obtain ⟨frs5, u5, f5, F5, N5, nd5⟩ := back_T C' F3 N3 u3 (by rw [List.map_append, sameUp_fst u3, ← List.map_append]; exact hndL) Fs3
  refine hGG6 ?_
  exact ret _ _ frs5 u5 f5 F5 N5 nd5
set_option pp.maxSteps 4000 in
theorem told7n (F : Fr h₀ L s.heap m) (X : (hd.heap_1 w.params).In h₀) (N : News h₀ L s.heap (news ++ frs)) (T : Top hd.view_1 (looseW hd.view_1 [Str.ofString "_NodeInfo"]) (ExcName.means s₀.heap) mg mb h₀) (Fs : Frs outer frs) (hk : cs.kind = .function) (hnd : ((news ++ frs).map (·.1)).Nodup)
    {p : Addr} {n : Nat} {x : Str} {k1 k2 : Tok} {ov : Value} 
    (hp : (p, ({ cls := .type "tuple", data := .seq #[.none, .int 7 k2] n } : Obj)) ∈ news) (hx : x.length ≤ 100) (hd : dp + 80 < recursionLimit) (hu : un + 200 < cLine)
    (ret : ∀ h' tk' frs', SameUp frs frs' → Frs outer frs' → Fr h₀ L h' m → News h₀ L h' (news ++ frs') → ((news ++ frs').map (·.1)).Nodup → Q .none { s with heap := h', toks := tk' })
    : wpAny (model (PySem.Challenge.rw_mr0291_01.row.prog) w) (ktrTop dp un gd cn cs L a ccd cl outer) (call (.ref 162) [.ref p, ov]) Q E s := by
  revert X; k_fill; intro X
  refine wpAny_call ?_
  k_dflt (refine' code_T (binds := [(Str.ofString "pair", .ref p), (Str.ofString "other", ov)]) (cn := cn) (cs := cs) (a := a) (ccd := ccd) (ccl := cl) ?kF ?kX ?kN ?kT ?kS ?k6 ?k7 ?k8 ?k9 ?kB ?_ ?kK ?c2 ?c3 ?c4 ?c5; (case kF => k_asm); (case kX => k_asm); (case kN => k_asm); (case kT => k_asm); (case kS => assumption); (case k6 => k_is); (case k7 => k_is); (case k8 => ktr_room); (case k9 => exact BindsTo.of_eq rfl); (case c5 => decide); (case kB => exact locs rfl); (case c2 => exact rfl); (case c3 => exact rfl); (case c4 => exact rfl); (case kK => assumption); k_whole; intro L' oL h' C' Fs' hneL F' N' l1; k_lt l1; (try dsimp only); (try k_fold))
  have hndL := nodup_mid hnd hneL (oL := oL)
  repeat' ((fail_if_success (with_reducible show wpAny _ _ (PySem.call (Value.ref 28) _ _) _ _ _)); (first | (k_unfold; (try dsimp only)) | (k_end; wrow_close) | ((with_reducible show wpAny _ _ (exec _ _) _ _ { heap := _, gens := _, drawn := _, toks := _ + 1, os := _ }); refine genT ?_; intro __tkT) | ((with_reducible show wpAny _ _ (exec _ _) _ _ _); refine sealQ ?_; intro qQ; walk1) | walk1 | (dsimp only; walk1) | (leave1; try dsimp only)))
  k_dflt (refine' build7n (s₀ := s₀) (x := x) (k1 := k1) (k2 := k2) (frs := (L, oL) :: frs) (news := news) ?kF ?kX ?kN ?kT ?kFs ?kk ?knd ?khp ?khx ?khd ?khu ?_; (case kF => k_asm); (case kX => k_asm); (case kN => k_asm); (case kT => k_asm); (case kFs => assumption); (case kk => exact rfl); (case knd => assumption); (case khp => assumption); (case khx => assumption); (case khd => ktr_room); (case khu => ktr_units))
  intro h2 tk2 e2 hR2
  refine sealG fun GG7 hGG7 => ?_
  obtain ⟨B2, oL2, fs2, a02, H2, C2, u2, hB2, hN2, hF2⟩ := hR2
  refine hGG7 ?_
  repeat' ((fail_if_success (with_reducible show wpAny _ _ (noteFrame _ _) _ _ _)); (first | (k_unfold; (try dsimp only)) | (k_end; wrow_close) | ((with_reducible show wpAny _ _ (exec _ _) _ _ { heap := _, gens := _, drawn := _, toks := _ + 1, os := _ }); refine genT ?_; intro __tkT) | ((with_reducible show wpAny _ _ (exec _ _) _ _ _); refine sealQ ?_; intro qQ; walk1) | walk1 | (dsimp only; walk1) | (leave1; try dsimp only)))
  k_dflt (refine catch_on (l := envX cn cs L a ccd cl :: outer) H2 rfl C2 u2 hB2 hN2 hF2 X (topRead_of T) (by kts_test) ?_)
  intro h3 frs3 u3 Fs3 F3 N3
  repeat' ((first | (k_unfold; (try dsimp only)) | (k_end; wrow_close) | ((with_reducible show wpAny _ _ (exec _ _) _ _ { heap := _, gens := _, drawn := _, toks := _ + 1, os := _ }); refine genT ?_; intro __tkT) | ((with_reducible show wpAny _ _ (exec _ _) _ _ _); refine sealQ ?_; intro qQ; walk1) | walk1 | (dsimp only; walk1) | (leave1; try dsimp only)))
  refine sealG fun GG8 hGG8 => ?_
  obtain ⟨frs5, u5, f5, F5, N5, nd5⟩ := back_T C' F3 N3 u3 (by rw [List.map_append, sameUp_fst u3, ← List.map_append]; exact hndL) Fs3
  refine hGG8 ?_
  exact ret _ _ frs5 u5 f5 F5 N5 nd5
end

end
section
theorem offG9 : True := by
  w_top off
  trivial
open PySem PySem.W PyProof.Rows
set_option maxRecDepth 100000
set_option maxHeartbeats 8000000
noncomputable def LangIs (v : Value) (x : Str) : Prop := (v = .none ∧ x = Str.ofString "C") ∨ ∃ t, v = .str x t
noncomputable def EncIs (v : Value) (y : Option Str) : Prop := (v = .none ∧ y = none) ∨ ∃ z t, v = .str z t ∧ y = some z
noncomputable def nm (x : Str) : Option Str → Str
  | none => x
  | some y => x ++ Str.ofString "." ++ y
section
variable {w : World} {s₀ : Shared} {mg mb : Str → Option Value} {dp un : Nat} {gd : Option (List Code)} {cn : Str} {cs : Scope} {a : Addr} {ccd : Value} {cl : List (Str × Addr)} {outer : List Env} {A₀ : Around} {base h₀ : Heap} {L : Addr} {m : Str → Option Value} {news : List (Addr × Obj)} {s : Shared} {Q E : Value → Shared → Prop}
set_option pp.maxSteps 4000 in
theorem buildT (B : Below A₀ base outer h₀) (F : Fr h₀ L s.heap m) (X : (hd.heap_1 w.params).In h₀) (N : News h₀ L s.heap news) (T : Top hd.view_1 (looseW hd.view_1 [Str.ofString "_NodeInfo"]) (ExcName.means s₀.heap) mg mb h₀) (hk : cs.kind = .function) (hnd : (news.map (·.1)).Nodup)
    {p : Addr} {n : Nat} {lv ev : Value} {x : Str} {y : Option Str}
    (hp : (p, ({ cls := .type "tuple", data := .seq #[lv, ev] n } : Obj)) ∈ news) (hl : LangIs lv x) (he : EncIs ev y) (hx : x.length ≤ 100) (hy : ∀ z, y = some z → z.length ≤ 100) (hd : dp + 60 < recursionLimit) (hu : un + 100 < cLine)
    (ret : ∀ h' tk' t, Fr h₀ L h' m → News h₀ L h' news → Q (.str (nm x y) t) { s with heap := h', toks := tk' })
    : wpAny (model (PySem.Challenge.rw_mr0291_01.row.prog) w) (ktrTop dp un gd cn cs L a ccd cl outer) (call (.ref 28) [.ref p]) Q E s := by
  revert X; k_fill; intro X
  rcases he with ⟨rfl, rfl⟩ | ⟨z, tz, rfl, rfl⟩
  · rcases hl with ⟨rfl, rfl⟩ | ⟨tx, rfl⟩
    · refine wpAny_call ?_
      k_dflt (refine' code_def ?k1 ?k2 ?k3 ?k4 ?k5 ?kA ?kF ?kK ?k6 ?k7 ?k8 ?k9 ?kB ?_ ?c2 ?c3 ?c4 ?c5; (case kA => exact rfl); (case kF => exact rfl); (case kK => assumption); (case k1 => k_asm); (case k2 => k_asm); (case k3 => k_asm); (case k4 => k_asm); (case k5 => k_asm); (case k6 => k_is); (case k7 => k_is); (case k8 => ktr_room); (case k9 => exact BindsTo.of_eq rfl); (case c5 => decide); (case kB => exact locs rfl); (case c2 => exact rfl); (case c3 => exact rfl); (case c4 => exact rfl); k_whole; intro g' L' h' FG' F' N' B' X' T'; (try dsimp only); (try k_fold))
      repeat' ((first | (k_unfold; (try dsimp only)) | (k_end; wrow_close) | ((with_reducible show wpAny _ _ (exec _ _) _ _ { heap := _, gens := _, drawn := _, toks := _ + 1, os := _ }); refine genT ?_; intro __tkT) | ((with_reducible show wpAny _ _ (exec _ _) _ _ _); refine sealQ ?_; intro qQ; walk1) | walk1 | (dsimp only; walk1) | (leave1; try dsimp only)))
      exact ret _ _ _ (by k_asm) (by k_asm)
    · refine wpAny_call ?_
      k_dflt (refine' code_def ?k1 ?k2 ?k3 ?k4 ?k5 ?kA ?kF ?kK ?k6 ?k7 ?k8 ?k9 ?kB ?_ ?c2 ?c3 ?c4 ?c5; (case kA => exact rfl); (case kF => exact rfl); (case kK => assumption); (case k1 => k_asm); (case k2 => k_asm); (case k3 => k_asm); (case k4 => k_asm); (case k5 => k_asm); (case k6 => k_is); (case k7 => k_is); (case k8 => ktr_room); (case k9 => exact BindsTo.of_eq rfl); (case c5 => decide); (case kB => exact locs rfl); (case c2 => exact rfl); (case c3 => exact rfl); (case c4 => exact rfl); k_whole; intro g' L' h' FG' F' N' B' X' T'; (try dsimp only); (try k_fold))
      repeat' ((first | (k_unfold; (try dsimp only)) | (k_end; wrow_close) | ((with_reducible show wpAny _ _ (exec _ _) _ _ { heap := _, gens := _, drawn := _, toks := _ + 1, os := _ }); refine genT ?_; intro __tkT) | ((with_reducible show wpAny _ _ (exec _ _) _ _ _); refine sealQ ?_; intro qQ; walk1) | walk1 | (dsimp only; walk1) | (leave1; try dsimp only)))
      exact ret _ _ _ (by k_asm) (by k_asm)
  · have hz := hy z rfl
    rcases hl with ⟨rfl, rfl⟩ | ⟨tx, rfl⟩
    · refine wpAny_call ?_
      k_dflt (refine' code_def ?k1 ?k2 ?k3 ?k4 ?k5 ?kA ?kF ?kK ?k6 ?k7 ?k8 ?k9 ?kB ?_ ?c2 ?c3 ?c4 ?c5; (case kA => exact rfl); (case kF => exact rfl); (case kK => assumption); (case k1 => k_asm); (case k2 => k_asm); (case k3 => k_asm); (case k4 => k_asm); (case k5 => k_asm); (case k6 => k_is); (case k7 => k_is); (case k8 => ktr_room); (case k9 => exact BindsTo.of_eq rfl); (case c5 => decide); (case kB => exact locs rfl); (case c2 => exact rfl); (case c3 => exact rfl); (case c4 => exact rfl); k_whole; intro g' L' h' FG' F' N' B' X' T'; (try dsimp only); (try k_fold))
      repeat' ((first | (k_unfold; (try dsimp only)) | (k_end; wrow_close) | ((with_reducible show wpAny _ _ (exec _ _) _ _ { heap := _, gens := _, drawn := _, toks := _ + 1, os := _ }); refine genT ?_; intro __tkT) | ((with_reducible show wpAny _ _ (exec _ _) _ _ _); refine sealQ ?_; intro qQ; walk1) | walk1 | (dsimp only; walk1) | (leave1; try dsimp only)))
      exact ret _ _ _ (by k_asm) (by k_asm)
    · refine wpAny_call ?_
      k_dflt (refine' code_def ?k1 ?k2 ?k3 ?k4 ?k5 ?kA ?kF ?kK ?k6 ?k7 ?k8 ?k9 ?kB ?_ ?c2 ?c3 ?c4 ?c5; (case kA => exact rfl); (case kF => exact rfl); (case kK => assumption); (case k1 => k_asm); (case k2 => k_asm); (case k3 => k_asm); (case k4 => k_asm); (case k5 => k_asm); (case k6 => k_is); (case k7 => k_is); (case k8 => ktr_room); (case k9 => exact BindsTo.of_eq rfl); (case c5 => decide); (case kB => exact locs rfl); (case c2 => exact rfl); (case c3 => exact rfl); (case c4 => exact rfl); k_whole; intro g' L' h' FG' F' N' B' X' T'; (try dsimp only); (try k_fold))
      repeat' ((first | (k_unfold; (try dsimp only)) | (k_end; wrow_close) | ((with_reducible show wpAny _ _ (exec _ _) _ _ { heap := _, gens := _, drawn := _, toks := _ + 1, os := _ }); refine genT ?_; intro __tkT) | ((with_reducible show wpAny _ _ (exec _ _) _ _ _); refine sealQ ?_; intro qQ; walk1) | walk1 | (dsimp only; walk1) | (leave1; try dsimp only)))
      exact ret _ _ _ (by k_asm) (by k_asm)
set_option pp.maxSteps 4000 in
theorem buildL (B : Below A₀ base outer h₀) (F : Fr h₀ L s.heap m) (X : (hd.heap_1 w.params).In h₀) (N : News h₀ L s.heap news) (T : Top hd.view_1 (looseW hd.view_1 [Str.ofString "_NodeInfo"]) (ExcName.means s₀.heap) mg mb h₀) (hk : cs.kind = .function) (hnd : (news.map (·.1)).Nodup)
    {p : Addr} {n : Nat} {lv ev : Value} {x : Str} {y : Option Str}
    (hp : (p, ({ cls := .type "list", data := .seq #[lv, ev] n } : Obj)) ∈ news) (hl : LangIs lv x) (he : EncIs ev y) (hx : x.length ≤ 100) (hy : ∀ z, y = some z → z.length ≤ 100) (hd : dp + 60 < recursionLimit) (hu : un + 100 < cLine)
    (ret : ∀ h' tk' t, Fr h₀ L h' m → News h₀ L h' news → Q (.str (nm x y) t) { s with heap := h', toks := tk' })
    : wpAny (model (PySem.Challenge.rw_mr0291_01.row.prog) w) (ktrTop dp un gd cn cs L a ccd cl outer) (call (.ref 28) [.ref p]) Q E s := by
  revert X; k_fill; intro X
  rcases he with ⟨rfl, rfl⟩ | ⟨z, tz, rfl, rfl⟩
  · rcases hl with ⟨rfl, rfl⟩ | ⟨tx, rfl⟩
    · refine wpAny_call ?_
      k_dflt (refine' code_def ?k1 ?k2 ?k3 ?k4 ?k5 ?kA ?kF ?kK ?k6 ?k7 ?k8 ?k9 ?kB ?_ ?c2 ?c3 ?c4 ?c5; (case kA => exact rfl); (case kF => exact rfl); (case kK => assumption); (case k1 => k_asm); (case k2 => k_asm); (case k3 => k_asm); (case k4 => k_asm); (case k5 => k_asm); (case k6 => k_is); (case k7 => k_is); (case k8 => ktr_room); (case k9 => exact BindsTo.of_eq rfl); (case c5 => decide); (case kB => exact locs rfl); (case c2 => exact rfl); (case c3 => exact rfl); (case c4 => exact rfl); k_whole; intro g' L' h' FG' F' N' B' X' T'; (try dsimp only); (try k_fold))
      repeat' ((first | (k_unfold; (try dsimp only)) | (k_end; wrow_close) | ((with_reducible show wpAny _ _ (exec _ _) _ _ { heap := _, gens := _, drawn := _, toks := _ + 1, os := _ }); refine genT ?_; intro __tkT) | ((with_reducible show wpAny _ _ (exec _ _) _ _ _); refine sealQ ?_; intro qQ; walk1) | walk1 | (dsimp only; walk1) | (leave1; try dsimp only)))
      exact ret _ _ _ (by k_asm) (by k_asm)
    · refine wpAny_call ?_
      k_dflt (refine' code_def ?k1 ?k2 ?k3 ?k4 ?k5 ?kA ?kF ?kK ?k6 ?k7 ?k8 ?k9 ?kB ?_ ?c2 ?c3 ?c4 ?c5; (case kA => exact rfl); (case kF => exact rfl); (case kK => assumption); (case k1 => k_asm); (case k2 => k_asm); (case k3 => k_asm); (case k4 => k_asm); (case k5 => k_asm); (case k6 => k_is); (case k7 => k_is); (case k8 => ktr_room); (case k9 => exact BindsTo.of_eq rfl); (case c5 => decide); (case kB => exact locs rfl); (case c2 => exact rfl); (case c3 => exact rfl); (case c4 => exact rfl); k_whole; intro g' L' h' FG' F' N' B' X' T'; (try dsimp only); (try k_fold))
      repeat' ((first | (k_unfold; (try dsimp only)) | (k_end; wrow_close) | ((with_reducible show wpAny _ _ (exec _ _) _ _ { heap := _, gens := _, drawn := _, toks := _ + 1, os := _ }); refine genT ?_; intro __tkT) | ((with_reducible show wpAny _ _ (exec _ _) _ _ _); refine sealQ ?_; intro qQ; walk1) | walk1 | (dsimp only; walk1) | (leave1; try dsimp only)))
      exact ret _ _ _ (by k_asm) (by k_asm)
  · have hz := hy z rfl
    rcases hl with ⟨rfl, rfl⟩ | ⟨tx, rfl⟩
    · refine wpAny_call ?_
      k_dflt (refine' code_def ?k1 ?k2 ?k3 ?k4 ?k5 ?kA ?kF ?kK ?k6 ?k7 ?k8 ?k9 ?kB ?_ ?c2 ?c3 ?c4 ?c5; (case kA => exact rfl); (case kF => exact rfl); (case kK => assumption); (case k1 => k_asm); (case k2 => k_asm); (case k3 => k_asm); (case k4 => k_asm); (case k5 => k_asm); (case k6 => k_is); (case k7 => k_is); (case k8 => ktr_room); (case k9 => exact BindsTo.of_eq rfl); (case c5 => decide); (case kB => exact locs rfl); (case c2 => exact rfl); (case c3 => exact rfl); (case c4 => exact rfl); k_whole; intro g' L' h' FG' F' N' B' X' T'; (try dsimp only); (try k_fold))
      repeat' ((first | (k_unfold; (try dsimp only)) | (k_end; wrow_close) | ((with_reducible show wpAny _ _ (exec _ _) _ _ { heap := _, gens := _, drawn := _, toks := _ + 1, os := _ }); refine genT ?_; intro __tkT) | ((with_reducible show wpAny _ _ (exec _ _) _ _ _); refine sealQ ?_; intro qQ; walk1) | walk1 | (dsimp only; walk1) | (leave1; try dsimp only)))
      exact ret _ _ _ (by k_asm) (by k_asm)
    · refine wpAny_call ?_
      k_dflt (refine' code_def ?k1 ?k2 ?k3 ?k4 ?k5 ?kA ?kF ?kK ?k6 ?k7 ?k8 ?k9 ?kB ?_ ?c2 ?c3 ?c4 ?c5; (case kA => exact rfl); (case kF => exact rfl); (case kK => assumption); (case k1 => k_asm); (case k2 => k_asm); (case k3 => k_asm); (case k4 => k_asm); (case k5 => k_asm); (case k6 => k_is); (case k7 => k_is); (case k8 => ktr_room); (case k9 => exact BindsTo.of_eq rfl); (case c5 => decide); (case kB => exact locs rfl); (case c2 => exact rfl); (case c3 => exact rfl); (case c4 => exact rfl); k_whole; intro g' L' h' FG' F' N' B' X' T'; (try dsimp only); (try k_fold))
      repeat' ((first | (k_unfold; (try dsimp only)) | (k_end; wrow_close) | ((with_reducible show wpAny _ _ (exec _ _) _ _ { heap := _, gens := _, drawn := _, toks := _ + 1, os := _ }); refine genT ?_; intro __tkT) | ((with_reducible show wpAny _ _ (exec _ _) _ _ _); refine sealQ ?_; intro qQ; walk1) | walk1 | (dsimp only; walk1) | (leave1; try dsimp only)))
      exact ret _ _ _ (by k_asm) (by k_asm)
set_option pp.maxSteps 4000 in
theorem buildS (B : Below A₀ base outer h₀) (F : Fr h₀ L s.heap m) (X : (hd.heap_1 w.params).In h₀) (N : News h₀ L s.heap news) (T : Top hd.view_1 (looseW hd.view_1 [Str.ofString "_NodeInfo"]) (ExcName.means s₀.heap) mg mb h₀) (hk : cs.kind = .function) (hnd : (news.map (·.1)).Nodup)
    {t : Tok} (hd : dp + 60 < recursionLimit) (hu : un + 100 < cLine)
    (ret : ∀ h' tk' t, Fr h₀ L h' m → News h₀ L h' news → Q (.str (Str.ofString "C.x") t) { s with heap := h', toks := tk' })
    : wpAny (model (PySem.Challenge.rw_mr0291_01.row.prog) w) (ktrTop dp un gd cn cs L a ccd cl outer) (call (.ref 28) [.str (Str.ofString "Cx") t]) Q E s := by
  revert X; k_fill; intro X
  refine wpAny_call ?_
  k_dflt (refine' code_def ?k1 ?k2 ?k3 ?k4 ?k5 ?kA ?kF ?kK ?k6 ?k7 ?k8 ?k9 ?kB ?_ ?c2 ?c3 ?c4 ?c5; (case kA => exact rfl); (case kF => exact rfl); (case kK => assumption); (case k1 => k_asm); (case k2 => k_asm); (case k3 => k_asm); (case k4 => k_asm); (case k5 => k_asm); (case k6 => k_is); (case k7 => k_is); (case k8 => ktr_room); (case k9 => exact BindsTo.of_eq rfl); (case c5 => decide); (case kB => exact locs rfl); (case c2 => exact rfl); (case c3 => exact rfl); (case c4 => exact rfl); k_whole; intro g' L' h' FG' F' N' B' X' T'; (try dsimp only); (try k_fold))
  repeat' ((fail_if_success (with_reducible show wpAny _ _ (assign (Expr.Tuple _ _ _) _ _) _ _ _)); (first | (k_unfold; (try dsimp only)) | (k_end; wrow_close) | ((with_reducible show wpAny _ _ (exec _ _) _ _ { heap := _, gens := _, drawn := _, toks := _ + 1, os := _ }); refine genT ?_; intro __tkT) | ((with_reducible show wpAny _ _ (exec _ _) _ _ _); refine sealQ ?_; intro qQ; walk1) | walk1 | (dsimp only; walk1) | (leave1; try dsimp only)))
  k_dflt (refine unpack_Cx rfl rfl rfl ?_)
  intro u1 u2 h1 tk1 kp1
  have F1 := F'.keeps kp1
  have N1 := N'.grown kp1
  repeat' ((first | (k_unfold; (try dsimp only)) | (k_end; wrow_close) | ((with_reducible show wpAny _ _ (exec _ _) _ _ { heap := _, gens := _, drawn := _, toks := _ + 1, os := _ }); refine genT ?_; intro __tkT) | ((with_reducible show wpAny _ _ (exec _ _) _ _ _); refine sealQ ?_; intro qQ; walk1) | walk1 | (dsimp only; walk1) | (leave1; try dsimp only)))
  exact ret _ _ _ (by k_asm) (by k_asm)
set_option pp.maxSteps 4000 in
theorem toldT (B : Below A₀ base outer h₀) (F : Fr h₀ L s.heap m) (X : (hd.heap_1 w.params).In h₀) (N : News h₀ L s.heap news) (T : Top hd.view_1 (looseW hd.view_1 [Str.ofString "_NodeInfo"]) (ExcName.means s₀.heap) mg mb h₀) (hk : cs.kind = .function) (hnd : (news.map (·.1)).Nodup)
    {p o : Addr} {n n' : Nat} {lv ev lv' ev' : Value} {x x' : Str} {y y' : Option Str} {t : Tok}
    (hp : (p, ({ cls := .type "tuple", data := .seq #[lv, ev] n } : Obj)) ∈ news) (hl : LangIs lv x) (he : EncIs ev y) (hx : x.length ≤ 100) (hy : ∀ z, y = some z → z.length ≤ 100) (ho : (o, ({ cls := .type "tuple", data := .seq #[lv', ev'] n' } : Obj)) ∈ news) (hl' : LangIs lv' x') (he' : EncIs ev' y') (hx' : x'.length ≤ 100) (hy' : ∀ z, y' = some z → z.length ≤ 100) (hd : dp + 80 < recursionLimit) (hu : un + 200 < cLine)
    (ret : ∀ h' tk' D t1 t2, Fr h₀ L h' m → News h₀ L h' ((D, ({ cls := .type "tuple", data := .seq #[.str (nm x y) t1, .str (nm x' y') t2] } : Obj)) :: news) → bnd news ≤ D → Q (.ref D) { s with heap := h', toks := tk' })
    : wpAny (model (PySem.Challenge.rw_mr0291_01.row.prog) w) (ktrTop dp un gd cn cs L a ccd cl outer) (call (.ref 162) [.ref p, .ref o]) Q E s := by
  revert X; k_fill; intro X
  refine wpAny_call ?_
  k_dflt (refine' code_def ?k1 ?k2 ?k3 ?k4 ?k5 ?kA ?kF ?kK ?k6 ?k7 ?k8 ?k9 ?kB ?_ ?c2 ?c3 ?c4 ?c5; (case kA => exact rfl); (case kF => exact rfl); (case kK => assumption); (case k1 => k_asm); (case k2 => k_asm); (case k3 => k_asm); (case k4 => k_asm); (case k5 => k_asm); (case k6 => k_is); (case k7 => k_is); (case k8 => ktr_room); (case k9 => exact BindsTo.of_eq rfl); (case c5 => decide); (case kB => exact locs rfl); (case c2 => exact rfl); (case c3 => exact rfl); (case c4 => exact rfl); k_whole; intro g' L' h' FG' F' N' B' X' T'; (try dsimp only); (try k_fold))
  repeat' ((fail_if_success (with_reducible show wpAny _ _ (PySem.call (Value.ref 28) _ _) _ _ _)); (first | (k_unfold; (try dsimp only)) | (k_end; wrow_close) | ((with_reducible show wpAny _ _ (exec _ _) _ _ { heap := _, gens := _, drawn := _, toks := _ + 1, os := _ }); refine genT ?_; intro __tkT) | ((with_reducible show wpAny _ _ (exec _ _) _ _ _); refine sealQ ?_; intro qQ; walk1) | walk1 | (dsimp only; walk1) | (leave1; try dsimp only)))
  k_dflt (refine' buildT (s₀ := s₀) ?kB ?kF ?kX ?kN ?kT ?kk ?knd hp hl he hx hy ?khd ?khu ?_; (case kB => k_asm); (case kF => k_asm); (case kX => k_asm); (case kN => k_asm); (case kT => k_asm); (case kk => exact rfl); (case knd => assumption); (case khd => ktr_room); (case khu => ktr_units))
  intro h1 tk1 t1 F1 N1
  repeat' ((fail_if_success (with_reducible show wpAny _ _ (PySem.call (Value.ref 28) _ _) _ _ _)); (first | (k_unfold; (try dsimp only)) | (k_end; wrow_close) | ((with_reducible show wpAny _ _ (exec _ _) _ _ { heap := _, gens := _, drawn := _, toks := _ + 1, os := _ }); refine genT ?_; intro __tkT) | ((with_reducible show wpAny _ _ (exec _ _) _ _ _); refine sealQ ?_; intro qQ; walk1) | walk1 | (dsimp only; walk1) | (leave1; try dsimp only)))
  k_dflt (refine' buildT (s₀ := s₀) ?kB ?kF ?kX ?kN ?kT ?kk ?knd ho hl' he' hx' hy' ?khd ?khu ?_; (case kB => k_asm); (case kF => k_asm); (case kX => k_asm); (case kN => k_asm); (case kT => k_asm); (case kk => exact rfl); (case knd => assumption); (case khd => ktr_room); (case khu => ktr_units))
  intro h2 tk2 t2 F2 N2
  repeat' ((first | (k_unfold; (try dsimp only)) | (k_end; wrow_close) | ((with_reducible show wpAny _ _ (exec _ _) _ _ { heap := _, gens := _, drawn := _, toks := _ + 1, os := _ }); refine genT ?_; intro __tkT) | ((with_reducible show wpAny _ _ (exec _ _) _ _ _); refine sealQ ?_; intro qQ; walk1) | walk1 | (dsimp only; walk1) | (leave1; try dsimp only)))
  exact ret _ _ _ _ _ (by k_asm) (by k_asm) (by assumption)
set_option pp.maxSteps 4000 in
theorem toldL (B : Below A₀ base outer h₀) (F : Fr h₀ L s.heap m) (X : (hd.heap_1 w.params).In h₀) (N : News h₀ L s.heap news) (T : Top hd.view_1 (looseW hd.view_1 [Str.ofString "_NodeInfo"]) (ExcName.means s₀.heap) mg mb h₀) (hk : cs.kind = .function) (hnd : (news.map (·.1)).Nodup)
    {p o : Addr} {n n' : Nat} {lv ev lv' ev' : Value} {x x' : Str} {y y' : Option Str} {t : Tok}
    (hp : (p, ({ cls := .type "list", data := .seq #[lv, ev] n } : Obj)) ∈ news) (hl : LangIs lv x) (he : EncIs ev y) (hx : x.length ≤ 100) (hy : ∀ z, y = some z → z.length ≤ 100) (ho : (o, ({ cls := .type "tuple", data := .seq #[lv', ev'] n' } : Obj)) ∈ news) (hl' : LangIs lv' x') (he' : EncIs ev' y') (hx' : x'.length ≤ 100) (hy' : ∀ z, y' = some z → z.length ≤ 100) (hd : dp + 80 < recursionLimit) (hu : un + 200 < cLine)
    (ret : ∀ h' tk' D t1 t2, Fr h₀ L h' m → News h₀ L h' ((D, ({ cls := .type "tuple", data := .seq #[.str (nm x y) t1, .str (nm x' y') t2] } : Obj)) :: news) → bnd news ≤ D → Q (.ref D) { s with heap := h', toks := tk' })
    : wpAny (model (PySem.Challenge.rw_mr0291_01.row.prog) w) (ktrTop dp un gd cn cs L a ccd cl outer) (call (.ref 162) [.ref p, .ref o]) Q E s := by
  revert X; k_fill; intro X
  refine wpAny_call ?_
  k_dflt (refine' code_def ?k1 ?k2 ?k3 ?k4 ?k5 ?kA ?kF ?kK ?k6 ?k7 ?k8 ?k9 ?kB ?_ ?c2 ?c3 ?c4 ?c5; (case kA => exact rfl); (case kF => exact rfl); (case kK => assumption); (case k1 => k_asm); (case k2 => k_asm); (case k3 => k_asm); (case k4 => k_asm); (case k5 => k_asm); (case k6 => k_is); (case k7 => k_is); (case k8 => ktr_room); (case k9 => exact BindsTo.of_eq rfl); (case c5 => decide); (case kB => exact locs rfl); (case c2 => exact rfl); (case c3 => exact rfl); (case c4 => exact rfl); k_whole; intro g' L' h' FG' F' N' B' X' T'; (try dsimp only); (try k_fold))
  repeat' ((fail_if_success (with_reducible show wpAny _ _ (PySem.call (Value.ref 28) _ _) _ _ _)); (first | (k_unfold; (try dsimp only)) | (k_end; wrow_close) | ((with_reducible show wpAny _ _ (exec _ _) _ _ { heap := _, gens := _, drawn := _, toks := _ + 1, os := _ }); refine genT ?_; intro __tkT) | ((with_reducible show wpAny _ _ (exec _ _) _ _ _); refine sealQ ?_; intro qQ; walk1) | walk1 | (dsimp only; walk1) | (leave1; try dsimp only)))
  k_dflt (refine' buildL (s₀ := s₀) ?kB ?kF ?kX ?kN ?kT ?kk ?knd hp hl he hx hy ?khd ?khu ?_; (case kB => k_asm); (case kF => k_asm); (case kX => k_asm); (case kN => k_asm); (case kT => k_asm); (case kk => exact rfl); (case knd => assumption); (case khd => ktr_room); (case khu => ktr_units))
  intro h1 tk1 t1 F1 N1
  repeat' ((fail_if_success (with_reducible show wpAny _ _ (PySem.call (Value.ref 28) _ _) _ _ _)); (first | (k_unfold; (try dsimp only)) | (k_end; wrow_close) | ((with_reducible show wpAny _ _ (exec _ _) _ _ { heap := _, gens := _, drawn := _, toks := _ + 1, os := _ }); refine genT ?_; intro __tkT) | ((with_reducible show wpAny _ _ (exec _ _) _ _ _); refine sealQ ?_; intro qQ; walk1) | walk1 | (dsimp only; walk1) | (leave1; try dsimp only)))
  k_dflt (refine' buildT (s₀ := s₀) ?kB ?kF ?kX ?kN ?kT ?kk ?knd ho hl' he' hx' hy' ?khd ?khu ?_; (case kB => k_asm); (case kF => k_asm); (case kX => k_asm); (case kN => k_asm); (case kT => k_asm); (case kk => exact rfl); (case knd => assumption); (case khd => ktr_room); (case khu => ktr_units))
  intro h2 tk2 t2 F2 N2
  repeat' ((first | (k_unfold; (try dsimp only)) | (k_end; wrow_close) | ((with_reducible show wpAny _ _ (exec _ _) _ _ { heap := _, gens := _, drawn := _, toks := _ + 1, os := _ }); refine genT ?_; intro __tkT) | ((with_reducible show wpAny _ _ (exec _ _) _ _ _); refine sealQ ?_; intro qQ; walk1) | walk1 | (dsimp only; walk1) | (leave1; try dsimp only)))
  exact ret _ _ _ _ _ (by k_asm) (by k_asm) (by assumption)
set_option pp.maxSteps 4000 in
theorem toldS (B : Below A₀ base outer h₀) (F : Fr h₀ L s.heap m) (X : (hd.heap_1 w.params).In h₀) (N : News h₀ L s.heap news) (T : Top hd.view_1 (looseW hd.view_1 [Str.ofString "_NodeInfo"]) (ExcName.means s₀.heap) mg mb h₀) (hk : cs.kind = .function) (hnd : (news.map (·.1)).Nodup)
    {p o : Addr} {n n' : Nat} {lv ev lv' ev' : Value} {x x' : Str} {y y' : Option Str} {t : Tok}
     (ho : (o, ({ cls := .type "tuple", data := .seq #[lv', ev'] n' } : Obj)) ∈ news) (hl' : LangIs lv' x') (he' : EncIs ev' y') (hx' : x'.length ≤ 100) (hy' : ∀ z, y' = some z → z.length ≤ 100) (hd : dp + 80 < recursionLimit) (hu : un + 200 < cLine)
    (ret : ∀ h' tk' D t1 t2, Fr h₀ L h' m → News h₀ L h' ((D, ({ cls := .type "tuple", data := .seq #[.str (Str.ofString "C.x") t1, .str (nm x' y') t2] } : Obj)) :: news) → bnd news ≤ D → Q (.ref D) { s with heap := h', toks := tk' })
    : wpAny (model (PySem.Challenge.rw_mr0291_01.row.prog) w) (ktrTop dp un gd cn cs L a ccd cl outer) (call (.ref 162) [.str (Str.ofString "Cx") t, .ref o]) Q E s := by
  revert X; k_fill; intro X
  refine wpAny_call ?_
  k_dflt (refine' code_def ?k1 ?k2 ?k3 ?k4 ?k5 ?kA ?kF ?kK ?k6 ?k7 ?k8 ?k9 ?kB ?_ ?c2 ?c3 ?c4 ?c5; (case kA => exact rfl); (case kF => exact rfl); (case kK => assumption); (case k1 => k_asm); (case k2 => k_asm); (case k3 => k_asm); (case k4 => k_asm); (case k5 => k_asm); (case k6 => k_is); (case k7 => k_is); (case k8 => ktr_room); (case k9 => exact BindsTo.of_eq rfl); (case c5 => decide); (case kB => exact locs rfl); (case c2 => exact rfl); (case c3 => exact rfl); (case c4 => exact rfl); k_whole; intro g' L' h' FG' F' N' B' X' T'; (try dsimp only); (try k_fold))
  repeat' ((fail_if_success (with_reducible show wpAny _ _ (PySem.call (Value.ref 28) _ _) _ _ _)); (first | (k_unfold; (try dsimp only)) | (k_end; wrow_close) | ((with_reducible show wpAny _ _ (exec _ _) _ _ { heap := _, gens := _, drawn := _, toks := _ + 1, os := _ }); refine genT ?_; intro __tkT) | ((with_reducible show wpAny _ _ (exec _ _) _ _ _); refine sealQ ?_; intro qQ; walk1) | walk1 | (dsimp only; walk1) | (leave1; try dsimp only)))
  k_dflt (refine' buildS (s₀ := s₀) ?kB ?kF ?kX ?kN ?kT ?kk ?knd ?khd ?khu ?_; (case kB => k_asm); (case kF => k_asm); (case kX => k_asm); (case kN => k_asm); (case kT => k_asm); (case kk => exact rfl); (case knd => assumption); (case khd => ktr_room); (case khu => ktr_units))
  intro h1 tk1 t1 F1 N1
  repeat' ((fail_if_success (with_reducible show wpAny _ _ (PySem.call (Value.ref 28) _ _) _ _ _)); (first | (k_unfold; (try dsimp only)) | (k_end; wrow_close) | ((with_reducible show wpAny _ _ (exec _ _) _ _ { heap := _, gens := _, drawn := _, toks := _ + 1, os := _ }); refine genT ?_; intro __tkT) | ((with_reducible show wpAny _ _ (exec _ _) _ _ _); refine sealQ ?_; intro qQ; walk1) | walk1 | (dsimp only; walk1) | (leave1; try dsimp only)))
  k_dflt (refine' buildT (s₀ := s₀) ?kB ?kF ?kX ?kN ?kT ?kk ?knd ho hl' he' hx' hy' ?khd ?khu ?_; (case kB => k_asm); (case kF => k_asm); (case kX => k_asm); (case kN => k_asm); (case kT => k_asm); (case kk => exact rfl); (case knd => assumption); (case khd => ktr_room); (case khu => ktr_units))
  intro h2 tk2 t2 F2 N2
  repeat' ((first | (k_unfold; (try dsimp only)) | (k_end; wrow_close) | ((with_reducible show wpAny _ _ (exec _ _) _ _ { heap := _, gens := _, drawn := _, toks := _ + 1, os := _ }); refine genT ?_; intro __tkT) | ((with_reducible show wpAny _ _ (exec _ _) _ _ _); refine sealQ ?_; intro qQ; walk1) | walk1 | (dsimp only; walk1) | (leave1; try dsimp only)))
  exact ret _ _ _ _ _ (by k_asm) (by k_asm) (by assumption)
end

end
section
open PySem PySem.W PyProof.Rows
set_option maxRecDepth 100000
section
variable {w : World} {l : List (Addr × Obj)} {σ σd d : Addr} {nds : List NA} {np : Str → Int} {sc : Str → List Str} {rv : Value} {npo nfi : Int} {n : NA}
theorem any_info (S : Sorter w l σ σd d nds np sc rv npo nfi) (hnd : (l.map (·.1)).Nodup) (hn : n ∈ nds) : (nds.any fun n' => Value.ref n.info == .ref n'.info && decide (np n'.name = 0)) = decide (np n.name = 0) := by
  by_cases h : np n.name = 0
  · rw [decide_eq_true h, List.any_eq_true]
    exact ⟨n, hn, by simp [h]⟩
  · rw [decide_eq_false h]
    rw [List.any_eq_false]
    intro n' hn' c
    simp only [Bool.and_eq_true, beq_iff_eq, Value.ref.injEq, decide_eq_true_eq] at c
    have : n'.name = n.name := by
      by_cases e : n'.name = n.name
      · exact e
      · exact absurd c.1.symm (S.infoNe hnd hn hn' e)
    rw [this] at c
    exact h c.2
end
theorem paired_names {nds : List NA} {p : NA → Bool} : ∀ {l : List NA} {ys : List Value}, (∀ n ∈ l, n ∈ nds) → (nds.map (·.info)).Nodup → Paired (fun v y => ∃ n ∈ nds, v = Value.ref n.info ∧ ∃ t, y = .str n.name t) (l.map fun n => Value.ref n.info) ys → StrsAre ys (l.map (·.name))
  | [], _, _, _, .nil => .nil
  | n :: l, y :: ys, hs, hd, .cons h hr => by
    obtain ⟨n', hn', e, t, rfl⟩ := h
    have : n = n' := inj_of_nodup hd (hs n (.head _)) hn' (by simpa using e)
    subst this
    exact .cons _ _ (paired_names (p := p) (fun m hm => hs m (.tail _ hm)) hd hr)
theorem Sorter.infos {w : World} {l : List (Addr × Obj)} {σ σd d : Addr} {nds : List NA} {np : Str → Int} {sc : Str → List Str} {rv : Value} {npo nfi : Int} (S : Sorter w l σ σd d nds np sc rv npo nfi) (hnd : (l.map (·.1)).Nodup) : (nds.map (·.info)).Nodup := by
  have hN := names_nodup S
  have key : ∀ l' : List NA, (∀ n ∈ l', n ∈ nds) → (l'.map (·.name)).Nodup → (l'.map (·.info)).Nodup := by
    intro l'
    induction l' with
    | nil => intro _ _; exact List.nodup_nil
    | cons a r ih =>
      intro hs h
      rw [List.map_cons, List.nodup_cons] at h ⊢
      refine ⟨fun hm => ?_, ih (fun n hn => hs n (.tail _ hn)) h.2⟩
      obtain ⟨b, hb, e⟩ := List.mem_map.mp hm
      by_cases c : b.name = a.name
      · exact h.1 (List.mem_map.mpr ⟨b, hb, c⟩)
      · exact S.infoNe hnd (hs a (.head _)) (hs b (.tail _ hb)) c e
  exact key nds (fun _ h => h) hN
theorem vals_eq {nds : List NA} {vs : List Value} (hl : vs.length = nds.length) (h : ∀ (j : Nat) (v : Value), vs[j]? = some v → ∃ k, (nds.map NA.pair)[j]? = some (k, v)) : vs = nds.map fun n => Value.ref n.info := by
  apply List.ext_getElem?
  intro j
  cases hv : vs[j]? with
  | none =>
    rw [List.getElem?_eq_none_iff] at hv
    rw [List.getElem?_eq_none]
    rw [List.length_map]; omega
  | some v =>
    obtain ⟨k, hk⟩ := h j v hv
    rw [List.getElem?_map] at hk ⊢
    cases hn : nds[j]? with
    | none => rw [hn] at hk; cases hk
    | some n => rw [hn] at hk; simp [NA.pair] at hk; simp [hk.2]
theorem putA_mono {d : Addr} {o : Obj} {l l' : List (Addr × Obj)} (h : ∀ p ∈ l, p ∈ l') : ∀ p ∈ putA d o l, p ∈ putA d o l' := fun p hp => by
  obtain ⟨q, hq, e⟩ := List.mem_map.mp hp
  exact List.mem_map.mpr ⟨q, h q hq, e⟩

end
section
local macro_rules | `(tactic| walk_at "none") => `(tactic| fail)
theorem offG10 : True := by
  w_top off
  trivial
open PySem PySem.W PyProof.Rows PyProof.Rows.TI
set_option maxRecDepth 100000
set_option maxHeartbeats 8000000
section
variable {w : World} {s₀ : Shared} {mg mb : Str → Option Value} {dp un : Nat} {gd : Option (List Code)} {cn : Str} {cs : Scope} {a : Addr} {ccd : Value} {cl : List (Str × Addr)} {outer : List Env} {h₀ : Heap} {L : Addr} {m : Str → Option Value} {news frs : List (Addr × Obj)} {s : Shared} {Q E : Value → Shared → Prop}
set_option pp.maxSteps 4000 in
theorem prepareT (F : Fr h₀ L s.heap m) (X : (hd.heap_1 w.params).In h₀) (N : News h₀ L s.heap (news ++ frs)) (T : Top hd.view_1 (looseW hd.view_1 [Str.ofString "_NodeInfo"]) (ExcName.means s₀.heap) mg mb h₀) (Fs : Frs outer frs) (hk : cs.kind = .function) (hnd : ((news ++ frs).map (·.1)).Nodup)
    {σ σd d : Addr} {nds : List NA} {np : Str → Int} {sc : Str → List Str} {npo nfi : Int} {rest : List (Addr × Obj)}
    (R : SR w news σ σd d nds np sc .none npo nfi rest) (hkl : nds.length ≤ 800) (hscl : ∀ z, (sc z).length ≤ 800) (hscn : ∀ x ∈ nds.map (·.name), ∀ y ∈ sc x, y ∈ nds.map (·.name)) (hd : dp + 80 < recursionLimit) (hu : un + 200 < cLine)
    (retN : ∀ h' tk' frs' news' rl ep vs fin, SameUp frs frs' → Frs outer frs' → Fr h₀ L h' m → News h₀ L h' (news' ++ frs') → ((news' ++ frs').map (·.1)).Nodup → SR w news' σ σd d nds np sc (.ref rl) npo nfi ((rl, W.listOf (List.toArray vs) ep) :: rest) → (∀ p ∈ rest, p.1 ≠ rl) → StrsAre vs ((nds.filter fun n => decide (np n.name = 0)).map (·.name)) → Topo sc fin → (∀ x ∈ nds.map (·.name), x ∈ fin) → Q .none { s with heap := h', toks := tk' })
    (rai : ∀ h' tk' e news' rl ep vs ring c, Raised h₀ L m (envX cn cs L a ccd cl) outer news' frs e (.ref 62) h' → ((news' ++ frs).map (·.1)).Nodup → SR w news' σ σd d nds np sc (.ref rl) npo nfi ((rl, W.listOf (List.toArray vs) ep) :: rest) → (∀ p ∈ rest, p.1 ≠ rl) → StrsAre vs ((nds.filter fun n => decide (np n.name = 0)).map (·.name)) →
      Path sc (ring ++ [c]) → 2 ≤ (ring ++ [c]).length → (ring ++ [c])[0]? = some c → (∀ x ∈ ring ++ [c], x ∈ nds.map (·.name)) → E (.ref e) { s with heap := h', toks := tk' })
    : wpAny (model (PySem.Challenge.rw_mr0291_01.row.prog) w) (ktrTop dp un gd cn cs L a ccd cl outer) (call (.ref 99) [.ref σ]) Q E s := by
  revert X; k_fill; intro X
  have hi := List.mem_append_left frs R.S.inst
  refine sealG fun GG1 hGG1 => ?_
  obtain ⟨e1, e2, e3, e4, k1, k2, k3, k4, t3, t4, hsd0⟩ := R.S.dict
  obtain ⟨od, hdd0, hod⟩ := R.S.n2i
  refine hGG1 ?_
  have lo := R.S.lo
  refine wpAny_call ?_
  k_dflt (refine' code_T (binds := [(Str.ofString "self", .ref σ)]) (cn := cn) (cs := cs) (a := a) (ccd := ccd) (ccl := cl) ?kF ?kX ?kN ?kT ?kS ?k6 ?k7 ?k8 ?k9 ?kB ?_ ?kK ?c2 ?c3 ?c4 ?c5; (case kF => k_asm); (case kX => k_asm); (case kN => k_asm); (case kT => k_asm); (case kS => assumption); (case k6 => k_is); (case k7 => k_is); (case k8 => ktr_room); (case k9 => exact BindsTo.of_eq rfl); (case c5 => decide); (case kB => exact locs rfl); (case c2 => exact rfl); (case c3 => exact rfl); (case c4 => exact rfl); (case kK => assumption); k_whole; intro L' oL h' C' Fs' hneL F' N' l1; k_lt l1; (try dsimp only); (try k_fold))
  have hndL := nodup_mid hnd hneL (oL := oL)
  have hnd0 : (news.map (·.1)).Nodup := by rw [List.map_append, List.nodup_append] at hnd; exact hnd.1
  refine sealG fun GG2 hGG2 => ?_
  obtain ⟨led, hled⟩ : ∃ led, led = news ++ (L, oL) :: frs := ⟨_, rfl⟩
  refine hGG2 ?_
  rw [← hled] at N' hndL
  have hsubN : ∀ p ∈ news, p ∈ led := fun p hp => by rw [hled]; exact List.mem_append_left _ hp
  have hi' := hsubN _ R.S.inst
  have hsd' := hsubN _ hsd0
  have hdd := hsubN _ hdd0
  have hbl : bnd led ≤ L' := by rw [hled, bnd_append]; exact l1
  repeat' ((fail_if_success (with_reducible show wpAny _ _ (eval (Expr.ListComp _ _ _ _) _) _ _ _)); (first | (k_unfold; (try dsimp only)) | (k_end; wrow_close) | ((with_reducible show wpAny _ _ (exec _ _) _ _ { heap := _, gens := _, drawn := _, toks := _ + 1, os := _ }); refine genT ?_; intro __tkT) | ((with_reducible show wpAny _ _ (exec _ _) _ _ _); refine sealQ ?_; intro qQ; walk1) | walk1 | (dsimp only; walk1) | (leave1; try dsimp only)))
  k_dflt (refine wpAny_ListComp_free (cl := []) (fun v => nds.any fun n => v == .ref n.info && decide (np n.name = 0)) (fun v y => ∃ n ∈ nds, v = .ref n.info ∧ ∃ t, y = .str n.name t) (by with_unfolding_all rfl) (by decide) rfl (by decide) rfl ?_)
  repeat' ((fail_if_success (with_reducible show wpAny _ _ (getMethod _ _ _) _ _ _)); (first | (k_unfold; (try dsimp only)) | (k_end; wrow_close) | ((with_reducible show wpAny _ _ (exec _ _) _ _ { heap := _, gens := _, drawn := _, toks := _ + 1, os := _ }); refine genT ?_; intro __tkT) | ((with_reducible show wpAny _ _ (exec _ _) _ _ _); refine sealQ ?_; intro qQ; walk1) | walk1 | (dsimp only; walk1) | (leave1; try dsimp only)))
  k_dflt (refine kdl_method (knd := PySem.strKind _ _) PySem.F.slot_dict_values PySem.F.type_dict_values N' hdd hod ?_)
  repeat' ((fail_if_success (with_reducible show wpAny _ _ (PySem.call (Value.builtin "dict.values") _ _) _ _ _)); (first | (k_unfold; (try dsimp only)) | (k_end; wrow_close) | ((with_reducible show wpAny _ _ (exec _ _) _ _ { heap := _, gens := _, drawn := _, toks := _ + 1, os := _ }); refine genT ?_; intro __tkT) | ((with_reducible show wpAny _ _ (exec _ _) _ _ _); refine sealQ ?_; intro qQ; walk1) | walk1 | (dsimp only; walk1) | (leave1; try dsimp only)))
  k_dflt (refine kdl_view_values (knd := PySem.strKind _ _) F' N' hdd hod lo ?_)
  intro Dv hv Fv Nv lv
  k_lt lv
  repeat' ((fail_if_success (with_reducible show wpAny _ _ (pyIter _) _ _ _)); (first | (k_unfold; (try dsimp only)) | (k_end; wrow_close) | ((with_reducible show wpAny _ _ (exec _ _) _ _ { heap := _, gens := _, drawn := _, toks := _ + 1, os := _ }); refine genT ?_; intro __tkT) | ((with_reducible show wpAny _ _ (exec _ _) _ _ _); refine sealQ ?_; intro qQ; walk1) | walk1 | (dsimp only; walk1) | (leave1; try dsimp only)))
  refine sealG fun GG3 hGG3 => ?_
  obtain ⟨es, ep, hx1, hx2, hx3, hx4, hx5⟩ := id hod
  refine hGG3 ?_
  k_dflt (refine wpAny_pyIter_values (knd := PySem.strKind _ _) (kvs := nds.map NA.pair) (ep := ep) ⟨_, (Nv _ (.head _)).1, rfl, rfl⟩ ⟨od, es, (Nv _ (.tail _ hdd)).1, hx1, hx2, hx3, hx4, hx5⟩ ?_)
  have hltd := Heap.lt_size (Nv _ (.tail _ hdd)).1
  refine ⟨_, _, _, _, _, _, rfl, Walks.dictValues (knd := PySem.strKind _ _) rfl _ d (Nat.ne_of_lt hltd) (nds.map NA.pair) ep, by rw [sizeLine_eq, List.length_map]; omega, ⟨⟨_, Heap.get?_push_size _ rfl, rfl, rfl⟩, ⟨od, es, Heap.get?_push_of_some _ (Nv _ (.tail _ hdd)).1, hx1, hx2, hx3, hx4, hx5⟩⟩, ?small, ⟨?tests, ?elt⟩, ?fin⟩
  case small =>
    intro b hb
    rcases List.mem_cons.mp hb with rfl | hb
    · show _ < (hv.push _).objs.size
      rw [Heap.size_push]; exact Nat.lt_succ_self _
    · show _ < (hv.push _).objs.size
      rw [Heap.size_push, List.mem_singleton.mp hb]; exact Nat.lt_succ_of_lt hltd
  case tests =>
    intro C i v s₃ m₃ E' hC hP hns hmx hkp htk
    refine sealG fun GG4 hGG4 => ?_
    obtain ⟨kx, hkv⟩ := hP
    have up : ∀ b o, hv.get? b = some o → s₃.heap.get? b = some o := fun b o e => hkp b o (fun hm => Nat.lt_irrefl _ (by have := Heap.lt_size e; rw [List.mem_singleton.mp hm] at this; exact this)) (Heap.get?_push_of_some _ e)
    have F3 := Fv.keeps up
    have N3 := Nv.grown up
    obtain ⟨hp3, g3, d3, tk3, os3⟩ := s₃
    clear hkp up
    rw [List.getElem?_map] at hkv
    obtain ⟨n, hn, hne⟩ := Option.map_eq_some_iff.mp hkv
    have hnm := List.mem_of_getElem? hn
    obtain rfl : v = .ref n.info := (congrArg Prod.snd hne).symm
    obtain ⟨nt, npt, hinf0⟩ := R.S.info n hnm
    refine hGG4 ?_
    have hinf := hsubN _ hinf0
    have hidt := hsubN _ (R.S.idt n hnm)
    have hpv : (nds.any fun n' => Value.ref n.info == .ref n'.info && decide (np n'.name = 0)) = decide (np n.name = 0) := any_info R.S hnd0 hnm
    rw [hpv]
    rw [List.forIn_cons]
    simp only [if_true]
    refine wpAny_bind (wpAny_bind ?_)
    repeat' ((first | (k_unfold; (try dsimp only)) | (k_end; wrow_close) | ((with_reducible show wpAny _ _ (exec _ _) _ _ { heap := _, gens := _, drawn := _, toks := _ + 1, os := _ }); refine genT ?_; intro __tkT) | ((with_reducible show wpAny _ _ (exec _ _) _ _ _); refine sealQ ?_; intro qQ; walk1) | walk1 | (dsimp only; walk1) | (leave1; try dsimp only)))
    refine wpAny_pure ?_
    dsimp only
    rw [List.forIn_nil]
    exact wpAny_pure ⟨by rw [Bool.beq_eq_decide_eq], _, _, rfl, fun _ _ e => e⟩
  case elt =>
    intro C i v s₃ m₃ E' hC hP hpv hns hmx hkp htk
    refine sealG fun GG5 hGG5 => ?_
    obtain ⟨kx, hkv⟩ := hP
    have up : ∀ b o, hv.get? b = some o → s₃.heap.get? b = some o := fun b o e => hkp b o (fun hm => Nat.lt_irrefl _ (by have := Heap.lt_size e; rw [List.mem_singleton.mp hm] at this; exact this)) (Heap.get?_push_of_some _ e)
    have F3 := Fv.keeps up
    have N3 := Nv.grown up
    obtain ⟨hp3, g3, d3, tk3, os3⟩ := s₃
    clear hkp up
    rw [List.getElem?_map] at hkv
    obtain ⟨n, hn, hne⟩ := Option.map_eq_some_iff.mp hkv
    have hnm := List.mem_of_getElem? hn
    obtain rfl : v = .ref n.info := (congrArg Prod.snd hne).symm
    obtain ⟨nt, npt, hinf0⟩ := R.S.info n hnm
    refine hGG5 ?_
    have hinf := hsubN _ hinf0
    have hidt := hsubN _ (R.S.idt n hnm)
    repeat' ((fail_if_success (with_reducible show _ ∧ _)); (first | (k_unfold; (try dsimp only)) | (k_end; wrow_close) | ((with_reducible show wpAny _ _ (exec _ _) _ _ { heap := _, gens := _, drawn := _, toks := _ + 1, os := _ }); refine genT ?_; intro __tkT) | ((with_reducible show wpAny _ _ (exec _ _) _ _ _); refine sealQ ?_; intro qQ; walk1) | walk1 | (dsimp only; walk1) | (leave1; try dsimp only)))
    exact ⟨⟨n, hnm, rfl, _, rfl⟩, _, _, rfl, fun _ _ e => e⟩
  case fin =>
    intro D h4 tk4 ys vs hD hl4 hpl4 hvl hP hpair hkeep
    have hI := vals_eq (by rw [hvl, List.length_map]) hP
    refine sealG fun GG6 hGG6 => ?_
    subst hI
    have up : ∀ b o, hv.get? b = some o → h4.get? b = some o := fun b o e => hkeep b o (fun hm => Nat.lt_irrefl _ (by have := Heap.lt_size e; rw [List.mem_singleton.mp hm] at this; exact this)) (Heap.get?_push_of_some _ e)
    have hDv : hv.get? D = none := by
      cases hq : hv.get? D with
      | none => rfl
      | some o => have := Heap.get?_push_of_some (h := hv) ({ cls := .type "dict_valueiterator", data := .fields #[.ref d, .int 0 0, .int (nds.map NA.pair).length 0, .int ep 0] } : Obj) hq; rw [show _ = none from hD] at this; cases this
    obtain ⟨ep4, hD4⟩ := hpl4
    refine hGG6 ?_
    have hDne : ∀ b o, hv.get? b = some o → b ≠ D := fun b o e q => by rw [q, hDv] at e; cases e
    have F4 := Fv.keeps up
    have hDL : ∀ p ∈ news, p.1 ≠ D := fun p hp => hDne _ _ (Nv p (.tail _ (hsubN p hp))).1
    have hDF : ∀ p ∈ led, p.1 ≠ D := fun p hp => hDne _ _ (Nv p (.tail _ hp)).1
    have N4 : News h₀ L' h4 ((D, W.listOf ys ep4) :: led) := fun p hp => by
      rcases List.mem_cons.mp hp with rfl | hp
      · refine ⟨hD4, ?_, ?_⟩
        · obtain ⟨oL', _, _, hL', _⟩ := Fv.ns
          exact fun q => hDne _ _ hL' q.symm
        · cases hq : h₀.get? D with
          | none => rfl
          | some o => exact absurd rfl (hDne _ _ (Fv.keep _ _ hq))
      · exact (Nv.grown up) p (.tail _ hp)
    have R2 := R.consI (I := D) (io := W.listOf ys ep4) (fun hm => by obtain ⟨p, hp, e⟩ := List.mem_map.mp hm; exact hDL p hp e)
    have hnd2 : (((D, W.listOf ys ep4) :: news).map (·.1)).Nodup := by
      rw [List.map_cons, List.nodup_cons]; exact ⟨fun hm => by obtain ⟨p, hp, e⟩ := List.mem_map.mp hm; exact hDL p hp e, hnd0⟩
    have hDs : @Ne Nat D σd := fun q => hDL _ hsd0 q.symm
    have hDi : @Ne Nat D σ := fun q => hDL _ R.S.inst q.symm
    have hys : StrsAre ys.toList ((nds.filter fun n => decide (np n.name = 0)).map (·.name)) := by
      rw [List.filter_map] at hpair
      refine paired_names (nds := nds) (p := fun _ => true) (fun n hn => (List.mem_filter.mp hn).1) (R.S.infos hnd0) ?_
      rw [show (nds.filter fun n => decide (np n.name = 0)) = nds.filter ((fun v => nds.any fun n => v == Value.ref n.info && decide (np n.name = 0)) ∘ fun n => Value.ref n.info) from List.filter_congr fun n hn => (any_info R.S hnd0 hn).symm]
      exact hpair
    have hyl : ys.size ≤ nds.length := by
      rw [← Array.length_toList, strs_len hys, List.length_map]; exact List.length_filter_le _ _
    clear hpair hP hvl hkeep hl4 up Nv Fv N' F'
    repeat' ((fail_if_success (with_reducible show wpAny _ _ (getMethod _ _ _) _ _ _)); (first | (k_unfold; (try dsimp only)) | (k_end; wrow_close) | ((with_reducible show wpAny _ _ (exec _ _) _ _ { heap := _, gens := _, drawn := _, toks := _ + 1, os := _ }); refine genT ?_; intro __tkT) | ((with_reducible show wpAny _ _ (exec _ _) _ _ _); refine sealQ ?_; intro qQ; walk1) | walk1 | (dsimp only; walk1) | (leave1; try dsimp only)))
    rename News h₀ L' _ ((D, _) :: putA σd _ _) => N5
    have hsub5 : ∀ {o : Obj}, ∀ p ∈ putA σd o ((D, W.listOf ys ep4) :: news), p ∈ (D, W.listOf ys ep4) :: putA σd o led := fun {o} p hp => by
      obtain ⟨q, hq, e⟩ := List.mem_map.mp hp
      rcases List.mem_cons.mp hq with rfl | hq
      · rw [if_neg (fun c => hDs c)] at e; subst e; exact .head _
      · exact .tail _ (List.mem_map.mpr ⟨q, hsubN q hq, e⟩)
    have hfne : ∀ p ∈ (L, oL) :: frs, p.1 ≠ σd := fun p hp q => by
      have h2 := hndL
      rw [hled, List.map_append, List.nodup_append] at h2
      exact h2.2.2 _ (List.mem_map_of_mem hsd0) _ (List.mem_map_of_mem hp) q.symm
    have R3 := R2.setDict (Mine.News.sub N5 hsub5) hnd2
    refine sealG fun GG7 hGG7 => ?_
    obtain ⟨news2, hnews2⟩ : ∃ l, l = putA σd (sortDict e1 e2 e3 e4 k1 k2 k3 k4 t3 t4 d (.ref D) npo nfi) ((D, W.listOf ys ep4) :: news) := ⟨_, rfl⟩
    have N6 : News h₀ L' _ (news2 ++ (L, oL) :: frs) := Mine.News.sub N5 fun p hp => by
      rcases List.mem_append.mp hp with hp | hp
      · rw [hnews2] at hp
        exact hsub5 p hp
      · exact .tail _ (mem_putA_ne (b := p.1) (x := p.2) (by rw [hled]; exact List.mem_append_right _ hp) (hfne p hp))
    have hnd6 : ((news2 ++ (L, oL) :: frs).map (·.1)).Nodup := by
      rw [hnews2, List.map_append, putA_fst, ← List.map_append, List.cons_append, List.map_cons, List.nodup_cons]
      rw [hled] at hndL
      refine ⟨fun hm => ?_, hndL⟩
      rw [List.map_append] at hm
      rcases List.mem_append.mp hm with hm | hm
      · obtain ⟨p, hp, e⟩ := List.mem_map.mp hm
        exact hDL p hp e
      · obtain ⟨p, hp, e⟩ := List.mem_map.mp hm
        exact hDF p (by rw [hled]; exact List.mem_append_right _ hp) e
    rw [← hnews2] at R3
    clear N5
    have hi6 := List.mem_append_left ((L, oL) :: frs) R3.S.inst
    obtain ⟨e1', e2', e3', e4', k1', k2', k3', k4', t3', t4', hsd6'⟩ := R3.S.dict
    refine hGG7 ?_
    have hsd6 := List.mem_append_left ((L, oL) :: frs) hsd6'
    repeat' ((fail_if_success (with_reducible show wpAny _ _ (PySem.call (Value.ref 134) _ _) _ _ _)); (first | (k_unfold; (try dsimp only)) | (k_end; wrow_close) | ((with_reducible show wpAny _ _ (exec _ _) _ _ { heap := _, gens := _, drawn := _, toks := _ + 1, os := _ }); refine genT ?_; intro __tkT) | ((with_reducible show wpAny _ _ (exec _ _) _ _ _); refine sealQ ?_; intro qQ; walk1) | walk1 | (dsimp only; walk1) | (leave1; try dsimp only)))
    show wpAny _ _ (PySem.call (Value.ref 134) [Value.ref σ]) _ _ _
    k_dflt (refine' findCycle (s₀ := s₀) (frs := (L, oL) :: frs) (news := news2) ?kF ?kX N6 ?kT ?kFs ?kk hnd6 R3 hkl hscl hscn ?khd ?khu ?retN ?retR; (case kF => k_asm); (case kX => k_asm); (case kT => k_asm); (case kFs => assumption); (case kk => exact rfl); (case khd => ktr_room); (case khu => ktr_units))
    case retN =>
      intro h7 tk7 frs7 fin u7 Fs7 F7 N7 nd7 ht7 hf7
      repeat' ((first | (k_unfold; (try dsimp only)) | (k_end; wrow_close) | ((with_reducible show wpAny _ _ (exec _ _) _ _ { heap := _, gens := _, drawn := _, toks := _ + 1, os := _ }); refine genT ?_; intro __tkT) | ((with_reducible show wpAny _ _ (exec _ _) _ _ _); refine sealQ ?_; intro qQ; walk1) | walk1 | (dsimp only; walk1) | (leave1; try dsimp only)))
      refine sealG fun GG8 hGG8 => ?_
      obtain ⟨frs8, u8, f8, F8, N8, nd8⟩ := back_T C' (by k_asm) (by k_asm) u7 nd7 Fs7
      refine hGG8 ?_
      exact retN _ _ frs8 news2 D ep4 ys.toList fin u8 f8 F8 N8 nd8 R3 (fun p hp => hDL p (R.sub p hp)) hys ht7 hf7
    case retR =>
      intro h7 tk7 frs7 r ring vs7 ep7 c u7 Fs7 F7 N7 nd7 hvs7 q1 q2 q3 q4 q5
      repeat' ((fail_if_success (with_reducible show wpAny _ _ (truthy _) _ _ _)); (first | (k_unfold; (try dsimp only)) | (k_end; wrow_close) | ((with_reducible show wpAny _ _ (exec _ _) _ _ { heap := _, gens := _, drawn := _, toks := _ + 1, os := _ }); refine genT ?_; intro __tkT) | ((with_reducible show wpAny _ _ (exec _ _) _ _ _); refine sealQ ?_; intro qQ; walk1) | walk1 | (dsimp only; walk1) | (leave1; try dsimp only)))
      have hvl7 := strs_len hvs7
      have hne7 : (!vs7.toArray.isEmpty) = true := by
        cases vs7 with
        | nil => simp at hvl7
        | cons => rfl
      have hrl7 : (ring ++ [c]).length ≤ 2000 := by
        have h1 := sum_le_of_nodup (fun _ => 1) _ (nds.map (·.name)) q4 fun x hx => q5 x (List.mem_of_mem_tail hx)
        simp only [List.map_const', List.sum_replicate_nat, Nat.mul_one, List.length_tail, List.length_map] at h1
        omega
      k_dflt (refine wpAny_truthy_list (News.isList (by k_asm) (.head _)) (by rw [List.size_toArray, hvl7]; omega) ?_)
      rw [hne7]
      repeat' ((fail_if_success (with_reducible show wpAny _ _ (leaving _ _) _ _ _)); (first | (k_unfold; (try dsimp only)) | (k_end; wrow_close) | ((with_reducible show wpAny _ _ (exec _ _) _ _ { heap := _, gens := _, drawn := _, toks := _ + 1, os := _ }); refine genT ?_; intro __tkT) | ((with_reducible show wpAny _ _ (exec _ _) _ _ _); refine sealQ ?_; intro qQ; walk1) | walk1 | (dsimp only; walk1) | (leave1; try dsimp only)))
      rename Heap.MadeExcOf _ _ _ _ _ => hx8
      rename News h₀ L' _ (_ :: news2 ++ frs7) => N8
      rename Fr h₀ L' _ _ => F8
      have nd8 : ((news2 ++ frs7).map (·.1)).Nodup := by rw [List.cons_append, List.map_cons, List.nodup_cons] at nd7; exact nd7.2
      have nd9 : ((news2 ++ frs).map (·.1)).Nodup := by
        have h := nd8
        rw [List.map_append, sameUp_fst u7, List.map_cons] at h
        rw [List.map_append]
        exact h.sublist (List.Sublist.append (List.Sublist.refl _) (List.sublist_cons_self _ _))
      k_dflt (refine leave_V (l := outer) (frs := frs) (new := news2) (f1 := frs7) rfl C' Fs' u7 (NewV.of' hx8) F8 (Mine.News.sub N8 fun p hp => .tail _ hp) nd8 (fun p hp => (N p (List.mem_append_right _ hp)).2.2) ?_)
      intro h9 hR9
      repeat' ((first | (k_unfold; (try dsimp only)) | (k_end; wrow_close) | ((with_reducible show wpAny _ _ (exec _ _) _ _ { heap := _, gens := _, drawn := _, toks := _ + 1, os := _ }); refine genT ?_; intro __tkT) | ((with_reducible show wpAny _ _ (exec _ _) _ _ _); refine sealQ ?_; intro qQ; walk1) | walk1 | (dsimp only; walk1) | (leave1; try dsimp only)))
      exact rai _ _ _ news2 D ep4 ys.toList ring c hR9 nd9 R3 (fun p hp => hDL p (R.sub p hp)) hys q1 q2 q3 q5
end

end
section
theorem offG11 : True := by
  w_top off
  trivial
open PySem PySem.W PyProof.Rows PyProof.Rows.TI
set_option maxRecDepth 100000
set_option maxHeartbeats 8000000
section
variable {w : World} {s₀ : Shared} {mg mb : Str → Option Value} {dp un : Nat} {gd : Option (List Code)} {cn : Str} {cs : Scope} {a : Addr} {ccd : Value} {cl : List (Str × Addr)} {outer : List Env} {h₀ : Heap} {L : Addr} {m : Str → Option Value} {news frs : List (Addr × Obj)} {s : Shared} {Q E : Value → Shared → Prop}
set_option pp.maxSteps 4000 in
theorem refusedT (F : Fr h₀ L s.heap m) (X : (hd.heap_1 w.params).In h₀) (N : News h₀ L s.heap (news ++ frs)) (T : Top hd.view_1 (looseW hd.view_1 [Str.ofString "_NodeInfo"]) (ExcName.means s₀.heap) mg mb h₀) (Fs : Frs outer frs) (hk : cs.kind = .function) (hnd : ((news ++ frs).map (·.1)).Nodup)
    {σ σd d : Addr} {nds : List NA} {np : Str → Int} {sc : Str → List Str} {npo nfi : Int} {rest : List (Addr × Obj)}
    (R : SR w news σ σd d nds np sc .none npo nfi rest) (hkl : nds.length ≤ 800) (hscl : ∀ z, (sc z).length ≤ 800) (hscn : ∀ x ∈ nds.map (·.name), ∀ y ∈ sc x, y ∈ nds.map (·.name)) (hd : dp + 100 < recursionLimit) (hu : un + 300 < cLine)
    (retN : ∀ h' tk' frs' news' rl ep vs fin, SameUp frs frs' → Frs outer frs' → Fr h₀ L h' m → News h₀ L h' (news' ++ frs') → ((news' ++ frs').map (·.1)).Nodup → SR w news' σ σd d nds np sc (.ref rl) npo nfi ((rl, W.listOf (List.toArray vs) ep) :: rest) → (∀ p ∈ rest, p.1 ≠ rl) → StrsAre vs ((nds.filter fun n => decide (np n.name = 0)).map (·.name)) → Topo sc fin → (∀ x ∈ nds.map (·.name), x ∈ fin) → Q (.bool false) { s with heap := h', toks := tk' })
    (retR : ∀ h' tk' frs' news' rl ep vs ring c, SameUp frs frs' → Frs outer frs' → Fr h₀ L h' m → News h₀ L h' (news' ++ frs') → ((news' ++ frs').map (·.1)).Nodup → SR w news' σ σd d nds np sc (.ref rl) npo nfi ((rl, W.listOf (List.toArray vs) ep) :: rest) → (∀ p ∈ rest, p.1 ≠ rl) → StrsAre vs ((nds.filter fun n => decide (np n.name = 0)).map (·.name)) →
      Path sc (ring ++ [c]) → 2 ≤ (ring ++ [c]).length → (ring ++ [c])[0]? = some c → (∀ x ∈ ring ++ [c], x ∈ nds.map (·.name)) → Q (.bool true) { s with heap := h', toks := tk' })
    : wpAny (model (PySem.Challenge.rw_mr0291_01.row.prog) w) (ktrTop dp un gd cn cs L a ccd cl outer) (call (.ref 181) [.ref σ]) Q E s := by
  revert X; k_fill; intro X
  refine wpAny_call ?_
  k_dflt (refine' code_T (binds := [(Str.ofString "sorter", .ref σ)]) (cn := cn) (cs := cs) (a := a) (ccd := ccd) (ccl := cl) ?kF ?kX ?kN ?kT ?kS ?k6 ?k7 ?k8 ?k9 ?kB ?_ ?kK ?c2 ?c3 ?c4 ?c5; (case kF => k_asm); (case kX => k_asm); (case kN => k_asm); (case kT => k_asm); (case kS => assumption); (case k6 => k_is); (case k7 => k_is); (case k8 => ktr_room); (case k9 => exact BindsTo.of_eq rfl); (case c5 => decide); (case kB => exact locs rfl); (case c2 => exact rfl); (case c3 => exact rfl); (case c4 => exact rfl); (case kK => assumption); k_whole; intro L' oL h' C' Fs' hneL F' N' l1; k_lt l1; (try dsimp only); (try k_fold))
  have hndL := nodup_mid hnd hneL (oL := oL)
  have hi' := List.mem_append_left ((L, oL) :: frs) R.S.inst
  refine sealG fun GG1 hGG1 => ?_
  obtain ⟨e1, e2, e3, e4, k1, k2, k3, k4, t3, t4, hsd0⟩ := R.S.dict
  refine hGG1 ?_
  have hsd' := List.mem_append_left ((L, oL) :: frs) hsd0
  repeat' ((fail_if_success (with_reducible show wpAny _ _ (PySem.call (Value.ref 99) _ _) _ _ _)); (first | (k_unfold; (try dsimp only)) | (k_end; wrow_close) | ((with_reducible show wpAny _ _ (exec _ _) _ _ { heap := _, gens := _, drawn := _, toks := _ + 1, os := _ }); refine genT ?_; intro __tkT) | ((with_reducible show wpAny _ _ (exec _ _) _ _ _); refine sealQ ?_; intro qQ; walk1) | walk1 | (dsimp only; walk1) | (leave1; try dsimp only)))
  show wpAny _ _ (PySem.call (Value.ref 99) [Value.ref σ]) _ _ _
  k_dflt (refine' prepareT (s₀ := s₀) (frs := (L, oL) :: frs) (news := news) ?kF ?kX ?kN ?kT ?kFs ?kk hndL R hkl hscl hscn ?khd ?khu ?retN ?rai; (case kF => k_asm); (case kX => k_asm); (case kN => k_asm); (case kT => k_asm); (case kFs => assumption); (case kk => exact rfl); (case khd => ktr_room); (case khu => ktr_units))
  case retN =>
    intro h7 tk7 frs7 news7 rl7 ep7 vs7 fin7 u7 Fs7 F7 N7 nd7 R7 hr7 hv7 ht7 hf7
    repeat' ((first | (k_unfold; (try dsimp only)) | (k_end; wrow_close) | ((with_reducible show wpAny _ _ (exec _ _) _ _ { heap := _, gens := _, drawn := _, toks := _ + 1, os := _ }); refine genT ?_; intro __tkT) | ((with_reducible show wpAny _ _ (exec _ _) _ _ _); refine sealQ ?_; intro qQ; walk1) | walk1 | (dsimp only; walk1) | (leave1; try dsimp only)))
    refine sealG fun GG2 hGG2 => ?_
    obtain ⟨frs8, u8, f8, F8, N8, nd8⟩ := back_T C' (by k_asm) (by k_asm) u7 nd7 Fs7
    refine hGG2 ?_
    exact retN _ _ frs8 news7 rl7 ep7 vs7 fin7 u8 f8 F8 N8 nd8 R7 hr7 hv7 ht7 hf7
  case rai =>
    intro h7 tk7 e7 news7 rl7 ep7 vs7 ring7 c7 hR7 nd7 R7 hr7 hv7 q1 q2 q3 q4
    refine sealG fun GG3 hGG3 => ?_
    obtain ⟨B2, oL2, fs2, a02, H2, C2, u2, hB2, hN2, hF2⟩ := hR7
    refine hGG3 ?_
    repeat' ((fail_if_success (with_reducible show wpAny _ _ (noteFrame _ _) _ _ _)); (first | (k_unfold; (try dsimp only)) | (k_end; wrow_close) | ((with_reducible show wpAny _ _ (exec _ _) _ _ { heap := _, gens := _, drawn := _, toks := _ + 1, os := _ }); refine genT ?_; intro __tkT) | ((with_reducible show wpAny _ _ (exec _ _) _ _ _); refine sealQ ?_; intro qQ; walk1) | walk1 | (dsimp only; walk1) | (leave1; try dsimp only)))
    k_dflt (refine catch_on (l := envX cn cs L a ccd cl :: outer) H2 rfl C2 u2 hB2 hN2 hF2 X (topRead_of T) (by kts_test) ?_)
    intro h3 frs3 u3 Fs3 F3 N3
    repeat' ((first | (k_unfold; (try dsimp only)) | (k_end; wrow_close) | ((with_reducible show wpAny _ _ (exec _ _) _ _ { heap := _, gens := _, drawn := _, toks := _ + 1, os := _ }); refine genT ?_; intro __tkT) | ((with_reducible show wpAny _ _ (exec _ _) _ _ _); refine sealQ ?_; intro qQ; walk1) | walk1 | (dsimp only; walk1) | (leave1; try dsimp only)))
    have nd3 : ((news7 ++ frs3).map (·.1)).Nodup := by rw [List.map_append, sameUp_fst u3, ← List.map_append]; exact nd7
    refine sealG fun GG4 hGG4 => ?_
    obtain ⟨frs5, u5, f5, F5, N5, nd5⟩ := back_T C' F3 N3 u3 nd3 Fs3
    refine hGG4 ?_
    exact retR _ _ frs5 news7 rl7 ep7 vs7 ring7 c7 u5 f5 F5 N5 nd5 R7 hr7 hv7 q1 q2 q3 q4
end

end
section
open PySem PySem.W PyProof.Rows PySem.Spec
set_option maxRecDepth 100000
section
variable {A : Around} {E : Value → Shared → Prop} {s : Shared} {env : Env} {h₀ : Heap} {P : Program} {w : World} {x : Str} {body : List Stmt} {Q : Flow → Shared → Prop} {m : Str → Option Value} {news : List (Addr × Obj)} {ax : Addr}
theorem forAt_range {a b : Int} {t u v : Tok} {n : Nat} (hh : A.handled = none) (F : Fr h₀ env.locals s.heap m) (N : News h₀ env.locals s.heap news) (hnd : (news.map (·.1)).Nodup) (ha : IsRange s.heap ax a b 1 t u v) (hn : b = a + n) (hs : Builtin.Range.small a b 1 = true) (hz : Builtin.Range.rangeSize a b 1 = n)
    (J : Nat → (Str → Option Value) → List (Addr × Obj) → Prop) (h0 : J 0 m news)
    (turn : ∀ I i t' m₁ news₁ h tk io, i < n → J i m₁ news₁ → Fr h₀ env.locals h (fun y => if y = x then some (.int (a + i) t') else m₁ y) → News h₀ env.locals h ((I, io) :: news₁) → (((I, io) :: news₁).map (·.1)).Nodup →
      wpAny (model P w) A (execs body env) (TurnEnd h₀ env.locals I io [] (J (i + 1)) { s with heap := h, toks := tk } Q) E { s with heap := h, toks := tk })
    (done : ∀ h' tk m' news', Fr h₀ env.locals h' m' → News h₀ env.locals h' news' → (news'.map (·.1)).Nodup → J n m' news' → Q .next { s with heap := h', toks := tk }) :
    wpAny (model P w) A (pyIter (.ref ax)) (fun it s₂ => ForAt P w A h₀ env x body Q E it s₂) E s := by
  refine wpAny_pyIter_range ha hs ?_
  rw [hz]
  have N' := N.push F { cls := .type "range_iterator", data := .fields #[rawInt a, rawInt (n : Int), rawInt 1] }
  refine ⟨_, _, _, _, _, m, news, [], _, J, rfl, Walks.range hh _ a 1 n, fun i h st => ⟨_, st⟩, ?_, ?_, ?_, ?_, F.push _, N', ?_, h0, ?_, ?_⟩
  · intro hm
    exact absurd F.ns.lt ((List.mem_singleton.mp hm) ▸ Nat.lt_irrefl _)
  · intro b hb; exact .inl (List.mem_singleton.mp hb)
  · intro p hp; cases hp
  · show IsRangeIter _ _ (a + ((0 : Nat) : Int) * 1) ((n : Int) - ((0 : Nat) : Int)) 1
    rw [show a + ((0 : Nat) : Int) * 1 = a by simp, show (n : Int) - ((0 : Nat) : Int) = n by simp]
    exact Heap.get?_push_size _ rfl
  · exact nodup_cons_of hnd (bnd_news N)
  · rintro i v' m₁ news₁ h tk io hi ⟨t', rfl⟩ hJ hk F₁ N₁ hn₁
    rw [show a + (i : Int) * 1 = a + i by omega] at F₁
    exact turn _ i t' m₁ news₁ h tk io hi hJ F₁ N₁ hn₁
  · intro h' tk m' news' F' N' hn' hk hJ
    exact done h' tk m' news' F' N' hn' hJ
end

end
section
open PySem PySem.W PyProof.Rows PySem.Spec PySem.Calls PySem.SeqAt
set_option maxRecDepth 100000
inductive NeedsAre (led : List (Addr × Obj)) : List Value → Needs → Prop
  | nil : NeedsAre led [] []
  | cons {a : Addr} {x y : Str} {t u : Tok} {n : Nat} {vs : List Value} {ns : Needs} : (a, ({ cls := .type "tuple", data := .seq #[.str x t, .str y u] n } : Obj)) ∈ led → NeedsAre led vs ns → NeedsAre led (.ref a :: vs) ((x, y) :: ns)
theorem NeedsAre.mono {led led' : List (Addr × Obj)} {vs : List Value} {ns : Needs} (h : NeedsAre led vs ns) (hs : ∀ v ∈ vs, ∀ a o, v = .ref a → (a, o) ∈ led → (a, o) ∈ led') : NeedsAre led' vs ns := by
  induction h with
  | nil => exact .nil
  | cons hm _ ih => exact .cons (hs _ (.head _) _ _ rfl hm) (ih fun v hv => hs v (.tail _ hv))
theorem NeedsAre.len {led : List (Addr × Obj)} {vs : List Value} {ns : Needs} (h : NeedsAre led vs ns) : vs.length = ns.length := by
  induction h with
  | nil => rfl
  | cons _ _ ih => simp [ih]
theorem NeedsAre.snoc {led : List (Addr × Obj)} {vs : List Value} {ns : Needs} {a : Addr} {x y : Str} {t u : Tok} {n : Nat} (h : NeedsAre led vs ns) (hm : (a, ({ cls := .type "tuple", data := .seq #[.str x t, .str y u] n } : Obj)) ∈ led) : NeedsAre led (vs ++ [.ref a]) (ns ++ [(x, y)]) := by
  induction h with
  | nil => exact .cons hm .nil
  | cons hm' _ ih => exact .cons hm' ih
theorem NeedsAre.get {led : List (Addr × Obj)} {vs : List Value} {ns : Needs} (h : NeedsAre led vs ns) : ∀ {i : Nat} {v : Value}, vs[i]? = some v → ∃ a x y t u n, v = .ref a ∧ ns[i]? = some (x, y) ∧ (a, ({ cls := .type "tuple", data := .seq #[.str x t, .str y u] n } : Obj)) ∈ led := by
  induction h with
  | nil => intro i v e; simp at e
  | @cons a x y t u n vs ns hm _ ih =>
    intro i v e
    cases i with
    | zero => simp at e; exact ⟨a, x, y, t, u, n, e.symm, rfl, hm⟩
    | succ i => simp at e; simpa using ih e
section
variable {P : Program} {w : World} {A : Around} {E : Value → Shared → Prop} {s : Shared} {h₀ : Heap} {L l D : Addr} {news : List (Addr × Obj)} {ep : Nat}
noncomputable def strEq (x : Str) (v : Value) : Bool := match v with | .str y _ => y == x | _ => false
theorem any_strs {vs : List Value} {ys : List Str} (h : StrsAre vs ys) (x : Str) : vs.toArray.any (strEq x) = decide (x ∈ ys) := by
  rw [List.any_toArray]
  induction h with
  | nil => rfl
  | cons z u _ ih =>
    rw [List.any_cons, ih]
    show ((z == x) || _) = _
    by_cases e : z = x
    · subst e; simp
    · have e' : x ≠ z := fun q => e q.symm
      simp [e, e']
theorem strs_mem {vs : List Value} {ys : List Str} (h : StrsAre vs ys) : ∀ v ∈ vs, ∃ y t, v = .str y t := by
  induction h with
  | nil => intro v hv; cases hv
  | cons z u _ ih =>
    intro v hv
    rcases List.mem_cons.mp hv with rfl | hv
    · exact ⟨z, u, rfl⟩
    · exact ih v hv
theorem in_strs {vs : List Value} {ys : List Str} {x : Str} {t : Tok} {Q : Value → Shared → Prop} (N : News h₀ L s.heap news) (hl : (l, W.listOf vs.toArray ep) ∈ news) (h : StrsAre vs ys) (hQ : Q (.bool (decide (x ∈ ys))) s) : wpAny (model P w) A (compareOp .In (.str x t) (.ref l)) Q E s := by
  refine in_listAt (strEq x) (News.isList N hl) (fun y hy => ?_) (by rw [any_strs h]; exact hQ)
  obtain ⟨z, u, rfl⟩ := strs_mem h y (by simpa using hy)
  exact EqAt.str_str z u x t
theorem notin_strs {vs : List Value} {ys : List Str} {x : Str} {t : Tok} {Q : Value → Shared → Prop} (N : News h₀ L s.heap news) (hl : (l, W.listOf vs.toArray ep) ∈ news) (h : StrsAre vs ys) (hQ : Q (.bool (!decide (x ∈ ys))) s) : wpAny (model P w) A (compareOp .NotIn (.str x t) (.ref l)) Q E s := by
  refine notIn_listAt (strEq x) (News.isList N hl) (fun y hy => ?_) (by rw [any_strs h]; exact hQ)
  obtain ⟨z, u, rfl⟩ := strs_mem h y (by simpa using hy)
  exact EqAt.str_str z u x t
open Classical in
noncomputable def pairEq (news : List (Addr × Obj)) (p q : Str) (v : Value) : Bool := decide (∃ a t u n, v = .ref a ∧ (a, ({ cls := .type "tuple", data := .seq #[.str p t, .str q u] n } : Obj)) ∈ news)
open Classical in
theorem pairEq_at {p q x y : Str} {t u : Tok} {n : Nat} {a : Addr} (hnd : (news.map (·.1)).Nodup) (hm : (a, ({ cls := .type "tuple", data := .seq #[.str x t, .str y u] n } : Obj)) ∈ news) : pairEq news p q (.ref a) = (x == p && y == q) := by
  unfold pairEq
  by_cases h : x = p ∧ y = q
  · obtain ⟨rfl, rfl⟩ := h
    rw [decide_eq_true ⟨a, t, u, n, rfl, hm⟩]; simp
  · rw [decide_eq_false]
    · cases h1 : (x == p && y == q) with
      | false => rfl
      | true => simp at h1; exact absurd h1 h
    · rintro ⟨b, t', u', n', e, hm'⟩
      cases e
      have := ledger_inj hnd hm hm'
      simp only [Obj.mk.injEq, Data.seq.injEq] at this
      obtain ⟨_, _, ⟨h1, _⟩, _⟩ := this
      have h2 := congrArg Array.toList h1
      simp at h2
      exact h ⟨h2.1.1, h2.2.1⟩
theorem any_pairs {p q : Str} (hnd : (news.map (·.1)).Nodup) {vs : List Value} {ns : Needs} (h : NeedsAre news vs ns) : vs.toArray.any (pairEq news p q) = decide ((p, q) ∈ ns) := by
  rw [List.any_toArray]
  induction h with
  | nil => rfl
  | @cons a x y t u n vs ns hm _ ih =>
    rw [List.any_cons, ih, pairEq_at hnd hm]
    by_cases e : x = p ∧ y = q
    · obtain ⟨rfl, rfl⟩ := e; simp
    · have e2 : ¬ ((p, q) = (x, y)) := fun c => e ⟨(congrArg Prod.fst c).symm, (congrArg Prod.snd c).symm⟩
      have e3 : (x == p && y == q) = false := by
        cases h1 : (x == p && y == q) with
        | false => rfl
        | true => simp at h1; exact absurd h1 e
      rw [e3, Bool.false_or]
      simp [e2]
theorem eqAt_pairs {a b : Addr} {x y p q : Str} {t u t' u' : Tok} {n n' : Nat} (hu : A.units < cLine) (N : News h₀ L s.heap news) (hm : (a, ({ cls := .type "tuple", data := .seq #[.str x t, .str y u] n } : Obj)) ∈ news) (hm' : (b, ({ cls := .type "tuple", data := .seq #[.str p t', .str q u'] n' } : Obj)) ∈ news) (hnd : (news.map (·.1)).Nodup) :
    EqAt A s (.ref a) (.ref b) (x == p && y == q) := by
  by_cases e : a = b
  · subst e
    have := ledger_inj hnd hm hm'
    simp only [Obj.mk.injEq, Data.seq.injEq] at this
    obtain ⟨_, _, ⟨h1, _⟩, _⟩ := this
    have h2 := congrArg Array.toList h1
    simp at h2
    obtain ⟨⟨rfl, _⟩, rfl, _⟩ := h2
    simpa using EqAt.same (A := A) (s := s) (.ref a)
  · refine EqAt.of_refs e ?_
    have := RcAt.tuples (A := A) (s := s) (e := fun j => if j = 0 then x == p else y == q) (items := #[.str x t, .str y u]) (items2 := #[.str p t', .str q u']) ⟨_, (N _ hm).1, rfl, _, rfl⟩ ⟨_, (N _ hm').1, rfl, _, rfl⟩ hu (fun j h1 h2 => by
      match j, h1 with
      | 0, _ => exact EqAt.str_str x t p t'
      | 1, _ => exact EqAt.str_str y u q u'
      | k + 2, h1 => simp at h1; omega)
    have e2 : ((List.range (min (#[Value.str x t, .str y u] : Array Value).size (#[Value.str p t', .str q u'] : Array Value).size)).all (fun j => if j = 0 then x == p else y == q) && (#[Value.str x t, .str y u] : Array Value).size == (#[Value.str p t', .str q u'] : Array Value).size) = (x == p && y == q) := by
      simp [List.range, List.range.loop]
    rw [e2] at this
    exact this
theorem notin_pairs {vs : List Value} {ns : Needs} {p q : Str} {t u : Tok} {n : Nat} {Q : Value → Shared → Prop} (hu : A.in1.units < cLine) (N : News h₀ L s.heap news) (hnd : (news.map (·.1)).Nodup) (hl : (l, W.listOf vs.toArray ep) ∈ news) (h : NeedsAre news vs ns) (hD : (D, ({ cls := .type "tuple", data := .seq #[.str p t, .str q u] n } : Obj)) ∈ news)
    (hQ : Q (.bool (!decide ((p, q) ∈ ns))) s) : wpAny (model P w) A (compareOp .NotIn (.ref D) (.ref l)) Q E s := by
  refine notIn_listAt (pairEq news p q) (News.isList N hl) (fun y hy => ?_) (by rw [any_pairs hnd h]; exact hQ)
  obtain ⟨i, hi, e⟩ := List.getElem_of_mem (by simpa using hy : y ∈ vs)
  obtain ⟨a, x, z, t', u', n', rfl, _, hm⟩ := h.get (i := i) (v := y) (by rw [List.getElem?_eq_getElem hi, e])
  rw [pairEq_at hnd hm]
  exact eqAt_pairs hu N hm hD hnd
end
theorem strs_at {vs : List Value} {ys : List Str} (h : StrsAre vs ys) : ∀ {i : Nat} {y : Str}, ys[i]? = some y → ∃ t, vs[i]? = some (.str y t) := by
  induction h with
  | nil => intro i y e; simp at e
  | cons z u _ ih =>
    intro i y e
    cases i with
    | zero => simp at e; exact ⟨u, by simp [e]⟩
    | succ i => simp at e; simpa using ih e
theorem pick_mid (l : List Value) (i j : Nat) (hi : i ≤ j) (hj : j ≤ l.length) : kms_pick l (some (i : Int)) (some (j : Int)) = (l.take j).drop i := by
  unfold kms_pick kms_lo kms_hi
  dsimp only
  rw [if_neg (by omega), if_neg (by omega), show min ((i : Int).toNat) l.length = i by omega, show min ((j : Int).toNat) l.length = j by omega]
  rw [List.drop_take]
theorem strs_take {vs : List Value} {ys : List Str} (h : StrsAre vs ys) : ∀ j, StrsAre (vs.take j) (ys.take j) := by
  induction h with
  | nil => intro j; simp; exact .nil
  | cons z u h ih =>
    intro j
    cases j with
    | zero => exact .nil
    | succ j => exact .cons z u (ih j)
theorem range_one (n : Nat) (a : Int) (ha : 0 ≤ a) (hn : a + n ≤ 100000) : Builtin.Range.small a (a + n) 1 = true ∧ Builtin.Range.rangeSize a (a + n) 1 = n := by
  have hz : Builtin.Range.rangeSize a (a + n) 1 = n := by
    unfold Builtin.Range.rangeSize
    simp
    omega
  refine ⟨?_, hz⟩
  unfold Builtin.Range.small
  rw [hz]
  simp only [Builtin.Range.rangeFitsLong]
  simp
  omega
noncomputable def notInS (l : List Str) (v : Value) : Bool := match v with | .str z _ => !decide (z ∈ l) | _ => false
theorem pair_strs {x y : Str} {t u : Tok} {j : Nat} {v : Value} (h : (#[Value.str x t, .str y u] : Array Value)[j]? = some v) : ∃ z tz, v = .str z tz := by
  match j with
  | 0 => simp at h; exact ⟨_, _, h.symm⟩
  | 1 => simp at h; exact ⟨_, _, h.symm⟩
  | k + 2 => simp at h

end
section
local macro_rules | `(tactic| walk_at "none") => `(tactic| fail)
theorem offG12 : True := by
  w_top off
  trivial
open PySem PySem.W PyProof.Rows
set_option maxRecDepth 100000
set_option maxHeartbeats 8000000
section
variable {w : World} {s₀ : Shared} {mg mb : Str → Option Value} {dp un : Nat} {gd : Option (List Code)} {cn : Str} {cs : Scope} {a : Addr} {ccd : Value} {cl : List (Str × Addr)} {outer : List Env} {A₀ : Around} {base h₀ : Heap} {L : Addr} {m : Str → Option Value} {news : List (Addr × Obj)} {s : Shared} {Q E : Value → Shared → Prop}
set_option pp.maxSteps 4000 in
theorem isRing (B : Below A₀ base outer h₀) (F : Fr h₀ L s.heap m) (X : (hd.heap_1 w.params).In h₀) (N : News h₀ L s.heap news) (T : Top hd.view_1 (looseW hd.view_1 [Str.ofString "_NodeInfo"]) (ExcName.means s₀.heap) mg mb h₀) (hk : cs.kind = .function) (hnd : (news.map (·.1)).Nodup)
    {r nl : Addr} {vs ws : List Value} {rs : List Str} {c : Str} {needs : Needs} {ep epn : Nat}
    (hr : (r, W.listOf vs.toArray ep) ∈ news) (hvs : StrsAre vs (rs ++ [c])) (hl : (nl, W.listOf ws.toArray epn) ∈ news) (hws : NeedsAre news ws needs) (hlen : 2 ≤ (rs ++ [c]).length) (hlen2 : (rs ++ [c]).length ≤ 2000) (h0 : (rs ++ [c])[0]? = some c)
    (hpl : ∀ p a b, (rs ++ [c])[p]? = some a → (rs ++ [c])[p + 1]? = some b → (b, a) ∈ needs ∧ b ∉ ((rs ++ [c]).take (p + 1)).drop 1) (hd : dp + 60 < recursionLimit) (hu : un + 100 < cLine)
    (ret : ∀ h' tk', Fr h₀ L h' m → News h₀ L h' news → Q (.bool true) { s with heap := h', toks := tk' })
    : wpAny (model (PySem.Challenge.rw_mr0291_01.row.prog) w) (ktrTop dp un gd cn cs L a ccd cl outer) (call (.ref 174) [.ref r, .ref nl]) Q E s := by
  revert X; k_fill; intro X
  have hvl := strs_len hvs
  refine wpAny_call ?_
  k_dflt (refine' code_def (binds := [(Str.ofString "ring", .ref r), (Str.ofString "needs", .ref nl)]) ?k1 ?k2 ?k3 ?k4 ?k5 ?kA ?kF ?kK ?k6 ?k7 ?k8 ?k9 ?kB ?_ ?c2 ?c3 ?c4 ?c5; (case kA => exact rfl); (case kF => exact rfl); (case kK => assumption); (case k1 => k_asm); (case k2 => k_asm); (case k3 => k_asm); (case k4 => k_asm); (case k5 => k_asm); (case k6 => k_is); (case k7 => k_is); (case k8 => ktr_room); (case k9 => exact BindsTo.of_eq rfl); (case c5 => decide); (case kB => exact locs rfl); (case c2 => exact rfl); (case c3 => exact rfl); (case c4 => exact rfl); k_whole; intro g' L' h' FG' F' N' B' X' T'; (try dsimp only); (try k_fold))
  repeat' ((fail_if_success (with_reducible show wpAny _ _ (PySem.call (Value.builtin "len") _ _) _ _ _)); (first | (k_unfold; (try dsimp only)) | (k_end; wrow_close) | ((with_reducible show wpAny _ _ (exec _ _) _ _ { heap := _, gens := _, drawn := _, toks := _ + 1, os := _ }); refine genT ?_; intro __tkT) | ((with_reducible show wpAny _ _ (exec _ _) _ _ _); refine sealQ ?_; intro qQ; walk1) | walk1 | (dsimp only; walk1) | (leave1; try dsimp only)))
  k_dflt (refine kst_len N' hr hvl (by omega) ?_)
  repeat' ((fail_if_success (with_reducible show wpAny _ _ (subscriptTail _ _ _ _) _ _ _)); (first | (k_unfold; (try dsimp only)) | (k_end; wrow_close) | ((with_reducible show wpAny _ _ (exec _ _) _ _ { heap := _, gens := _, drawn := _, toks := _ + 1, os := _ }); refine genT ?_; intro __tkT) | ((with_reducible show wpAny _ _ (exec _ _) _ _ _); refine sealQ ?_; intro qQ; walk1) | walk1 | (dsimp only; walk1) | (leave1; try dsimp only)))
  refine sealG fun GG1 hGG1 => ?_
  obtain ⟨t0, hv0⟩ := strs_at hvs h0
  have hlast : (rs ++ [c])[rs.length]? = some c := by simp
  obtain ⟨t1, hv1⟩ := strs_at hvs hlast
  refine hGG1 ?_
  have hvl2 : vs.length = rs.length + 1 := by rw [hvl]; simp
  k_dflt (refine kim_list N' hr rfl rfl (by decide) (by decide) (x := Value.str c t0) (by simpa using hv0) ?_)
  repeat' ((fail_if_success (with_reducible show wpAny _ _ (subscriptTail _ _ _ _) _ _ _)); (first | (k_unfold; (try dsimp only)) | (k_end; wrow_close) | ((with_reducible show wpAny _ _ (exec _ _) _ _ { heap := _, gens := _, drawn := _, toks := _ + 1, os := _ }); refine genT ?_; intro __tkT) | ((with_reducible show wpAny _ _ (exec _ _) _ _ _); refine sealQ ?_; intro qQ; walk1) | walk1 | (dsimp only; walk1) | (leave1; try dsimp only)))
  k_dflt (refine kim_back N' hr rfl rfl (by decide) (by omega) (by decide) (x := Value.str c t1) (by rw [show ((-1 : Int) + (vs.length : Int)).toNat = rs.length by omega]; exact hv1) ?_)
  repeat' ((fail_if_success (with_reducible show wpAny _ _ (exec (Stmt.For _ _ _ _ _) _) _ _ _)); (first | (k_unfold; (try dsimp only)) | (k_end; wrow_close) | ((with_reducible show wpAny _ _ (exec _ _) _ _ { heap := _, gens := _, drawn := _, toks := _ + 1, os := _ }); refine genT ?_; intro __tkT) | ((with_reducible show wpAny _ _ (exec _ _) _ _ _); refine sealQ ?_; intro qQ; walk1) | walk1 | (dsimp only; walk1) | (leave1; try dsimp only)))
  · exact absurd (show (c != c) = true by assumption) (by simp)
  refine for_led g' rfl rfl ?_
  repeat' ((fail_if_success (with_reducible show wpAny _ _ (PySem.call (Value.builtin "len") _ _) _ _ _)); (first | (k_unfold; (try dsimp only)) | (k_end; wrow_close) | ((with_reducible show wpAny _ _ (exec _ _) _ _ { heap := _, gens := _, drawn := _, toks := _ + 1, os := _ }); refine genT ?_; intro __tkT) | ((with_reducible show wpAny _ _ (exec _ _) _ _ _); refine sealQ ?_; intro qQ; walk1) | walk1 | (dsimp only; walk1) | (leave1; try dsimp only)))
  k_dflt (refine kst_len N' hr hvl (by omega) ?_)
  repeat' ((fail_if_success (with_reducible show wpAny _ _ (PySem.call (Value.type "range") _ _) _ _ _)); (first | (k_unfold; (try dsimp only)) | (k_end; wrow_close) | ((with_reducible show wpAny _ _ (exec _ _) _ _ { heap := _, gens := _, drawn := _, toks := _ + 1, os := _ }); refine genT ?_; intro __tkT) | ((with_reducible show wpAny _ _ (exec _ _) _ _ _); refine sealQ ?_; intro qQ; walk1) | walk1 | (dsimp only; walk1) | (leave1; try dsimp only)))
  k_dflt (refine call_range_2 ?_)
  repeat' ((fail_if_success (with_reducible show wpAny _ _ (pyIter _) _ _ _)); (first | (k_unfold; (try dsimp only)) | (k_end; wrow_close) | ((with_reducible show wpAny _ _ (exec _ _) _ _ { heap := _, gens := _, drawn := _, toks := _ + 1, os := _ }); refine genT ?_; intro __tkT) | ((with_reducible show wpAny _ _ (exec _ _) _ _ _); refine sealQ ?_; intro qQ; walk1) | walk1 | (dsimp only; walk1) | (leave1; try dsimp only)))
  have hbn : (((rs ++ [c]).length : Nat) : Int) = 1 + (rs.length : Nat) := by simp; omega
  have hrl : rs.length + 1 ≤ 2000 := by simpa using hlen2
  have hro := range_one rs.length 1 (by decide) (by omega)
  k_dflt refine forAt_range (n := rs.length) rfl (F'.push _) (N'.grown fun b o e => Heap.get?_push_of_some _ e) hnd (IsRange.new _ _ _ _ _ _ _) hbn (by rw [hbn]; exact hro.1) (by rw [hbn]; exact hro.2) (fun i m₁ news₁ => SameBut1 (Str.ofString "place") m₁ (fun y => List.lookup y [(Str.ofString "ring", Value.ref r), (Str.ofString "needs", Value.ref nl)].reverse) ∧ ∀ p ∈ news, p ∈ news₁) ⟨SameBut1.refl _ _, fun p hp => hp⟩ ?turn ?done
  case done =>
    intro h4 tk4 m4 news4 F4 N4 hnd4 hJ
    refine sealG fun GG2 hGG2 => ?_
    obtain ⟨hm4, hs4⟩ := hJ
    refine hGG2 ?_
    replace F4 := fr_same F4 hm4
    replace N4 := Mine.News.sub N4 hs4
    repeat' ((first | (k_unfold; (try dsimp only)) | (k_end; wrow_close) | ((with_reducible show wpAny _ _ (exec _ _) _ _ { heap := _, gens := _, drawn := _, toks := _ + 1, os := _ }); refine genT ?_; intro __tkT) | ((with_reducible show wpAny _ _ (exec _ _) _ _ _); refine sealQ ?_; intro qQ; walk1) | walk1 | (dsimp only; walk1) | (leave1; try dsimp only)))
    exact ret _ _ (by k_asm) (by k_asm)
  case turn =>
    intro I i t' m₁ news₁ h tk io hi hJ F2 N2 hnd2
    refine sealQ ?_; intro qT
    refine sealG fun GG3 hGG3 => ?_
    obtain ⟨hm₁, hs1⟩ := hJ
    rw [map_set hm₁] at F2
    have N3 : News g' L' h ((I, io) :: news) := Mine.News.sub N2 fun p hp => by
      rcases List.mem_cons.mp hp with rfl | hp
      · exact .head _
      · exact .tail _ (hs1 p hp)
    obtain ⟨x1, hx1⟩ : ∃ z, (rs ++ [c])[i]? = some z := ⟨_, List.getElem?_eq_getElem (by simp; omega)⟩
    obtain ⟨x2, hx2⟩ : ∃ z, (rs ++ [c])[i + 1]? = some z := ⟨_, List.getElem?_eq_getElem (by simp; omega)⟩
    obtain ⟨t2, hv2⟩ := strs_at hvs hx1
    obtain ⟨t3, hv3⟩ := strs_at hvs hx2
    obtain ⟨hp1, hp2⟩ := hpl i x1 x2 hx1 hx2
    refine hGG3 ?_
    repeat' ((fail_if_success (with_reducible show wpAny _ _ (subscriptTail _ _ _ _) _ _ _)); (first | (k_unfold; (try dsimp only)) | (k_end; wrow_close) | ((with_reducible show wpAny _ _ (exec _ _) _ _ { heap := _, gens := _, drawn := _, toks := _ + 1, os := _ }); refine genT ?_; intro __tkT) | ((with_reducible show wpAny _ _ (exec _ _) _ _ _); refine sealQ ?_; intro qQ; walk1) | walk1 | (dsimp only; walk1) | (leave1; try dsimp only)))
    k_dflt (refine kim_list N3 (.tail _ hr) rfl rfl (by omega) (by omega) (x := Value.str x2 t3) (by rw [show (1 + (i : Int)).toNat = i + 1 by omega]; exact hv3) ?_)
    repeat' ((fail_if_success (with_reducible show wpAny _ _ (subscriptTail _ _ _ _) _ _ _)); (first | (k_unfold; (try dsimp only)) | (k_end; wrow_close) | ((with_reducible show wpAny _ _ (exec _ _) _ _ { heap := _, gens := _, drawn := _, toks := _ + 1, os := _ }); refine genT ?_; intro __tkT) | ((with_reducible show wpAny _ _ (exec _ _) _ _ _); refine sealQ ?_; intro qQ; walk1) | walk1 | (dsimp only; walk1) | (leave1; try dsimp only)))
    k_dflt (refine kim_list N3 (.tail _ hr) rfl rfl (by omega) (by omega) (x := Value.str x1 t2) (by rw [show (1 + (i : Int) - 1).toNat = i by omega]; exact hv2) ?_)
    repeat' ((fail_if_success (with_reducible show wpAny _ _ (compareOp CmpOp.NotIn _ _) _ _ _)); (first | (k_unfold; (try dsimp only)) | (k_end; wrow_close) | ((with_reducible show wpAny _ _ (exec _ _) _ _ { heap := _, gens := _, drawn := _, toks := _ + 1, os := _ }); refine genT ?_; intro __tkT) | ((with_reducible show wpAny _ _ (exec _ _) _ _ _); refine sealQ ?_; intro qQ; walk1) | walk1 | (dsimp only; walk1) | (leave1; try dsimp only)))
    rename News g' _ _ ((_, { cls := Value.type "tuple", dict := _, data := Data.seq #[Value.str x2 t3, Value.str x1 t2], slots := _ }) :: _) => N4
    rename _ ∧ bnd news₁ ≤ _ => l4
    have hnd4 := nodup_cons_of hnd2 (p := (_, ({ cls := Value.type "tuple", data := Data.seq #[Value.str x2 t3, Value.str x1 t2] } : Obj))) (show bnd ((I, io) :: news₁) ≤ _ by rw [bnd_cons]; exact Nat.max_le.mpr ⟨l4.1, l4.2⟩)
    have hws4 : ∀ q : Addr × Obj, NeedsAre (q :: (I, io) :: news₁) ws needs := fun q => hws.mono fun v hv a o _ hm => .tail _ (.tail _ (hs1 _ hm))
    k_dflt (refine notin_pairs (by ktr_units) N4 hnd4 (.tail _ (.tail _ (hs1 _ hl))) (hws4 _) (.head _) ?_)
    rw [decide_eq_true hp1, Bool.not_true]
    repeat' ((fail_if_success (with_reducible show wpAny _ _ (subscriptTail _ _ _ _) _ _ _)); (first | (k_unfold; (try dsimp only)) | (k_end; wrow_close) | ((with_reducible show wpAny _ _ (exec _ _) _ _ { heap := _, gens := _, drawn := _, toks := _ + 1, os := _ }); refine genT ?_; intro __tkT) | ((with_reducible show wpAny _ _ (exec _ _) _ _ _); refine sealQ ?_; intro qQ; walk1) | walk1 | (dsimp only; walk1) | (leave1; try dsimp only)))
    k_dflt (refine kim_list N4 (.tail _ (.tail _ (hs1 _ hr))) rfl rfl (by omega) (by omega) (x := Value.str x2 t3) (by rw [show (1 + (i : Int)).toNat = i + 1 by omega]; exact hv3) ?_)
    repeat' ((fail_if_success (with_reducible show wpAny _ _ (subscriptTail _ _ _ _) _ _ _)); (first | (k_unfold; (try dsimp only)) | (k_end; wrow_close) | ((with_reducible show wpAny _ _ (exec _ _) _ _ { heap := _, gens := _, drawn := _, toks := _ + 1, os := _ }); refine genT ?_; intro __tkT) | ((with_reducible show wpAny _ _ (exec _ _) _ _ _); refine sealQ ?_; intro qQ; walk1) | walk1 | (dsimp only; walk1) | (leave1; try dsimp only)))
    k_dflt (refine kms_slice_lit (by k_asm) N4 (News.isList N4 (.tail _ (.tail _ (hs1 _ hr)))) (by kmk_part) (by kmk_part) (zs := (vs.take (i + 1)).drop 1) (by rw [show (1 + (i : Int)) = ((i + 1 : Nat) : Int) by omega]; exact pick_mid vs 1 (i + 1) (by omega) (by omega)) ?_ (by with_unfolding_all rfl) (by kmk_pure) (by rw [sizeLine_eq, List.size_toArray]; omega))
    intro D6 h6 F6 N6 l6
    repeat' ((fail_if_success (with_reducible show wpAny _ _ (compareOp CmpOp.In _ _) _ _ _)); (first | (k_unfold; (try dsimp only)) | (k_end; wrow_close) | ((with_reducible show wpAny _ _ (exec _ _) _ _ { heap := _, gens := _, drawn := _, toks := _ + 1, os := _ }); refine genT ?_; intro __tkT) | ((with_reducible show wpAny _ _ (exec _ _) _ _ _); refine sealQ ?_; intro qQ; walk1) | walk1 | (dsimp only; walk1) | (leave1; try dsimp only)))
    k_dflt (refine in_strs N6 (.head _) (strs_drop (strs_take hvs (i + 1)) 1) ?_)
    rw [decide_eq_false hp2]
    repeat' ((first | (k_unfold; (try dsimp only)) | (k_end; wrow_close) | ((with_reducible show wpAny _ _ (exec _ _) _ _ { heap := _, gens := _, drawn := _, toks := _ + 1, os := _ }); refine genT ?_; intro __tkT) | ((with_reducible show wpAny _ _ (exec _ _) _ _ _); refine sealQ ?_; intro qQ; walk1) | walk1 | (dsimp only; walk1) | (leave1; try dsimp only)))
    exact TurnEnd.go (by k_asm) (Mine.News.sub N6 fun p hp => .tail _ (.tail _ hp)) hnd2 (fun p hp => nomatch hp) ⟨SameBut1.set, hs1⟩
end

end
section
open PySem PySem.W PyProof.Rows PySem.Spec
noncomputable def le2 (a b : List Nat) : Prop := ltCps b a = false
theorem le2_trans : ∀ {a b c : List Nat}, le2 a b → le2 b c → le2 a c
  | [], _, [], _, _ => rfl
  | [], _, _ :: _, _, _ => rfl
  | x :: a, [], _, h, _ => by simp [le2, ltCps] at h
  | x :: a, y :: b, [], _, h => by simp [le2, ltCps] at h
  | x :: a, y :: b, z :: c, h1, h2 => by
    simp only [le2, ltCps, Bool.or_eq_false_iff, decide_eq_false_iff_not, Nat.not_lt, Bool.and_eq_false_imp, beq_iff_eq] at h1 h2 ⊢
    refine ⟨Nat.le_trans h1.1 h2.1, fun e => ?_⟩
    have e1 : y = x := by omega
    have e2 : z = y := by omega
    exact le2_trans (a := a) (b := b) (c := c) (h1.2 e1) (h2.2 e2)
theorem le2_antisymm : ∀ {a b : List Nat}, le2 a b → le2 b a → a = b
  | [], [], _, _ => rfl
  | [], _ :: _, _, h => by simp [le2, ltCps] at h
  | _ :: _, [], h, _ => by simp [le2, ltCps] at h
  | x :: a, y :: b, h1, h2 => by
    simp only [le2, ltCps, Bool.or_eq_false_iff, decide_eq_false_iff_not, Nat.not_lt, Bool.and_eq_false_imp, beq_iff_eq] at h1 h2
    have e : x = y := by omega
    subst e
    rw [le2_antisymm (h1.2 rfl) (h2.2 rfl)]
noncomputable def leS (a b : Str) : Prop := le2 a.cps.toList b.cps.toList
theorem leS_antisymm {a b : Str} (h1 : leS a b) (h2 : leS b a) : a = b := by
  have h := le2_antisymm h1 h2
  cases a; cases b
  simp only [Str.mk.injEq]
  exact Array.toList_inj.mp h
theorem rising_pairwise : ∀ (l : List Str) (p : Str), risingS p l = true → (p :: l).Pairwise leS
  | [], p, _ => List.pairwise_singleton _ _
  | x :: r, p, h => by
    simp only [risingS, Bool.and_eq_true, Bool.not_eq_true'] at h
    have ih := rising_pairwise r x h.2
    rw [List.pairwise_cons]
    refine ⟨fun y hy => ?_, ih⟩
    rcases List.mem_cons.mp hy with rfl | hy
    · exact h.1
    · exact le2_trans (b := x.cps.toList) h.1 ((List.pairwise_cons.mp ih).1 y hy)
theorem sorted_pairwise : ∀ {l : List Str}, sortedS l = true → l.Pairwise leS
  | [], _ => .nil
  | x :: r, h => rising_pairwise r x h
theorem sorted_eq {a b : List Str} (ha : sortedS a = true) (hb : sortedS b = true) (hp : a.Perm b) : a = b :=
  hp.eq_of_pairwise (fun _ _ _ _ h1 h2 => leS_antisymm h1 h2) (sorted_pairwise ha) (sorted_pairwise hb)

end
section
open PySem
noncomputable def grow (l : List Str) (p : Str × Str) : List Str := l ++ [p.1, p.2].filter fun z => !decide (z ∈ l)
noncomputable def gathered (needs : Needs) : List Str := needs.foldl grow []
theorem gathered_take {needs : Needs} {i : Nat} {p : Str × Str} (h : needs[i]? = some p) : gathered (needs.take (i + 1)) = grow (gathered (needs.take i)) p := by
  unfold gathered; rw [List.take_add_one, h, List.foldl_append]; rfl
theorem mem_grow {l : List Str} {p : Str × Str} {z : Str} : z ∈ grow l p ↔ z ∈ l ∨ z = p.1 ∨ z = p.2 := by
  unfold grow
  rw [List.mem_append, List.mem_filter]
  simp only [List.mem_cons, List.not_mem_nil, or_false, Bool.not_eq_true', decide_eq_false_iff_not]
  constructor
  · rintro (h | ⟨h, _⟩)
    · exact .inl h
    · exact .inr h
  · rintro (h | h)
    · exact .inl h
    · by_cases c : z ∈ l
      · exact .inl c
      · exact .inr ⟨h, c⟩
theorem mem_foldl_grow {z : Str} : ∀ (needs : Needs) (l : List Str), z ∈ needs.foldl grow l ↔ z ∈ l ∨ ∃ p ∈ needs, z = p.1 ∨ z = p.2
  | [], l => by simp
  | p :: r, l => by
    rw [List.foldl_cons, mem_foldl_grow r, mem_grow]
    constructor
    · rintro ((h | h) | ⟨q, hq, h⟩)
      · exact .inl h
      · exact .inr ⟨p, .head _, h⟩
      · exact .inr ⟨q, .tail _ hq, h⟩
    · rintro (h | ⟨q, hq, h⟩)
      · exact .inl (.inl h)
      · rcases List.mem_cons.mp hq with rfl | hq
        · exact .inl (.inr h)
        · exact .inr ⟨q, hq, h⟩
theorem mem_gathered {needs : Needs} {z : Str} : z ∈ gathered needs ↔ ∃ p ∈ needs, z = p.1 ∨ z = p.2 := by
  unfold gathered; rw [mem_foldl_grow]; simp
theorem grow_len (l : List Str) (p : Str × Str) : (grow l p).length ≤ l.length + 2 := by
  unfold grow
  rw [List.length_append]
  have := List.length_filter_le (fun z => !decide (z ∈ l)) [p.1, p.2]
  simp only [List.length_cons, List.length_nil] at this
  omega
theorem foldl_grow_len : ∀ (needs : Needs) (l : List Str), (needs.foldl grow l).length ≤ l.length + 2 * needs.length
  | [], l => by simp
  | p :: r, l => by
    have h1 := foldl_grow_len r (grow l p)
    have h2 := grow_len l p
    rw [List.foldl_cons, List.length_cons]; omega
theorem gathered_len (needs : Needs) : (gathered needs).length ≤ 2 * needs.length := by
  have := foldl_grow_len needs []; simpa [gathered] using this
noncomputable def firsts (l : List Str) : List Str := (List.range l.length).filterMap fun k => match l[k]? with | some x => if x ∈ l.take k then none else some x | none => none
noncomputable def firstsTo (l : List Str) (n : Nat) : List Str := (List.range n).filterMap fun k => match l[k]? with | some x => if x ∈ l.take k then none else some x | none => none
theorem firstsTo_succ {l : List Str} {n : Nat} {x : Str} (h : l[n]? = some x) : firstsTo l (n + 1) = firstsTo l n ++ if x ∈ l.take n then [] else [x] := by
  unfold firstsTo
  rw [List.range_succ, List.filterMap_append]
  congr 1
  simp only [List.filterMap_cons, List.filterMap_nil, h]
  by_cases c : x ∈ l.take n
  · rw [if_pos c, if_pos c]
  · rw [if_neg c, if_neg c]
theorem mem_firstsTo {l : List Str} {z : Str} : ∀ {n : Nat}, n ≤ l.length → (z ∈ firstsTo l n ↔ z ∈ l.take n)
  | 0, _ => by simp [firstsTo]
  | n + 1, hn => by
    obtain ⟨x, hx⟩ : ∃ x, l[n]? = some x := ⟨_, List.getElem?_eq_getElem (by omega)⟩
    rw [firstsTo_succ hx, List.mem_append, mem_firstsTo (by omega), take_mem hx]
    constructor
    · rintro (h | h)
      · exact .inl h
      · split at h
        · cases h
        · exact .inr (List.mem_singleton.mp h)
    · rintro (h | rfl)
      · exact .inl h
      · by_cases c : z ∈ l.take n
        · exact .inl c
        · exact .inr (by rw [if_neg c]; exact .head _)
theorem nodup_firstsTo {l : List Str} : ∀ {n : Nat}, n ≤ l.length → (firstsTo l n).Nodup
  | 0, _ => by simp [firstsTo]
  | n + 1, hn => by
    obtain ⟨x, hx⟩ : ∃ x, l[n]? = some x := ⟨_, List.getElem?_eq_getElem (by omega)⟩
    rw [firstsTo_succ hx]
    by_cases c : x ∈ l.take n
    · rw [if_pos c, List.append_nil]; exact nodup_firstsTo (by omega)
    · rw [if_neg c, List.nodup_append]
      refine ⟨nodup_firstsTo (by omega), by simp, fun a ha b hb e => ?_⟩
      rw [List.mem_singleton.mp hb] at e
      subst e
      exact c ((mem_firstsTo (by omega)).mp ha)

end
section
open PySem PySem.W PyProof.Rows PySem.Spec PySem.Calls
set_option maxRecDepth 100000
section
variable {P : Program} {w : World} {A : Around} {E : Value → Shared → Prop} {s : Shared} {h₀ : Heap} {L D b : Addr} {m : Str → Option Value} {news : List (Addr × Obj)}
theorem extend_led {us vs : List Value} {n n2 : Nat} {Q : Value → Shared → Prop} (F : Fr h₀ L s.heap m) (N : News h₀ L s.heap news) (hnd : (news.map (·.1)).Nodup) (hb : (b, W.listOf vs.toArray n2) ∈ news) (hm : (D, W.listOf us.toArray n) ∈ news) (hz : us.length + vs.length ≤ 100000)
    (h : ∀ h' n', Fr h₀ L h' m → News h₀ L h' (putA D (W.listOf (us ++ vs).toArray n') news) → Q .none { s with heap := h' }) : wpAny (model P w) A (call (.builtin "list.extend") [.ref D, .ref b]) Q E s := by
  have hlong : ∀ k, k ≤ 100000 → Builtin.List.listTooLong k = false := fun k hk => by
    unfold Builtin.List.listTooLong
    rw [sizeLine_eq]
    simp
    omega
  have hd : ¬ (!us.toArray.isEmpty && Builtin.List.listTooLong (us.toArray.size + vs.toArray.size)) = true := by
    rw [List.size_toArray, List.size_toArray, hlong _ hz, Bool.and_false]; exact Bool.false_ne_true
  have hz1 : us.toArray.toList.length ≤ sizeLine := by rw [sizeLine_eq]; simp; omega
  have hz2 : us.toArray.size + vs.toArray.size ≤ sizeLine + 1 := by rw [sizeLine_eq]; simp; omega
  by_cases he : vs = []
  · subst he
    rw [List.append_nil] at h
    exact kxn_extend F N hb rfl (upd_putA hnd hm) hd hz1 hz2 fun h' F' N' => h h' _ F' N'
  · exact kl_extend F N hb (l := us ++ vs) (by simp) (by simpa using he) (upd_putA hnd hm) hd hz1 hz2 fun h' F' N' => h h' _ F' N'
end

end
section
open PySem PySem.W PyProof.Rows
set_option maxRecDepth 100000
theorem comp_news {h₀ h h4 : Heap} {L D : Addr} {m : Str → Option Value} {led : List (Addr × Obj)} {ys : Array Value} {it : Obj} (F : Fr h₀ L h m) (N : News h₀ L h led) (hnd : (led.map (·.1)).Nodup) (hD : (h.push it).get? D = none) (hpl : h4.PlainList D ys) (up : ∀ b o, h.get? b = some o → h4.get? b = some o) :
    ∃ ep, Fr h₀ L h4 m ∧ News h₀ L h4 ((D, W.listOf ys ep) :: led) ∧ (((D, W.listOf ys ep) :: led).map (·.1)).Nodup ∧ ∀ p ∈ led, p.1 ≠ D := by
  obtain ⟨ep, hD4⟩ := hpl
  have hDv : h.get? D = none := by
    cases hq : h.get? D with
    | none => rfl
    | some o => have := Heap.get?_push_of_some it hq; rw [hD] at this; cases this
  have hne : ∀ b o, h.get? b = some o → b ≠ D := fun b o e q => by rw [q, hDv] at e; cases e
  have hfar : ∀ p ∈ led, p.1 ≠ D := fun p hp => hne _ _ (N p hp).1
  refine ⟨ep, F.keeps up, fun p hp => ?_, ?_, hfar⟩
  · rcases List.mem_cons.mp hp with rfl | hp
    · refine ⟨hD4, ?_, ?_⟩
      · obtain ⟨oL, _, _, hL, _⟩ := F.ns
        exact fun q => hne _ _ hL q.symm
      · cases hq : h₀.get? D with
        | none => rfl
        | some o => exact absurd rfl (hne _ _ (F.keep _ _ hq))
    · exact (N.grown up) p hp
  · rw [List.map_cons, List.nodup_cons]
    exact ⟨fun hm => by obtain ⟨p, hp, e⟩ := List.mem_map.mp hm; exact hfar p hp e, hnd⟩
theorem paired_eq : ∀ {l ys : List Value}, Paired (fun v y => v = y) l ys → ys = l
  | _, _, .nil => rfl
  | _, _, .cons h r => by rw [paired_eq r, h]
theorem strs_filter {vs : List Value} {ys : List Str} (h : StrsAre vs ys) (l : List Str) : StrsAre (vs.filter (notInS l)) (ys.filter fun z => !decide (z ∈ l)) := by
  induction h with
  | nil => exact .nil
  | cons z u _ ih =>
    rw [List.filter_cons, List.filter_cons]
    show StrsAre (if (!decide (z ∈ l)) = true then _ else _) _
    by_cases c : z ∈ l
    · simp only [c, decide_true, Bool.not_true, Bool.false_eq_true, if_false]; exact ih
    · simp only [c, decide_false, Bool.not_false, if_true]; exact .cons z u ih
theorem list_of_items {vs : List Value} {items : Array Value} (hl : vs.length = items.size) (h : ∀ (j : Nat) (v : Value), vs[j]? = some v → items[j]? = some v) : vs = items.toList := by
  apply List.ext_getElem?
  intro j
  cases hv : vs[j]? with
  | none =>
    rw [List.getElem?_eq_none_iff] at hv
    rw [List.getElem?_eq_none]
    rw [Array.length_toList]; omega
  | some v => rw [Array.getElem?_toList]; exact (h j v hv).symm
theorem strs_append {vs vs' : List Value} {ys ys' : List Str} (h : StrsAre vs ys) (h' : StrsAre vs' ys') : StrsAre (vs ++ vs') (ys ++ ys') := by
  induction h with
  | nil => exact h'
  | cons z u _ ih => exact .cons z u ih

end
section
open PySem PySem.W PyProof.Rows PySem.Spec
set_option maxRecDepth 100000
section
variable {prog : Program} {w : World} {A : Around} {R : Result → Shared → Prop} {s : Shared}
theorem comp_loop {elt target iter : Expr} {ifs : List Expr} {scope : Scope} {pos : Pos} {it acc : Value} {env : Env} (I : Nat → Shared → Prop)
    (turn : ∀ n s, I n s → wpAny (model prog w) A (pyNext it) (fun r s₁ => match r with
      | none => R (.ok .next) s₁
      | some v => wpAny (model prog w) A (letOwnedTupleGo target it v) (fun _ s₁' => wpAny (model prog w) A (assign target env v) (fun _ s₂ =>
          wpAny (model prog w) A (forIn ifs true fun c r => if r = true then do let ok ← isTrue c env (eval c env); pure (ForInStep.yield ok) else pure (ForInStep.yield r)) (fun ok s₃ =>
            if ok = true then wpAny (model prog w) A (eval elt env) (fun x s₄ =>
              wpAny (model prog w) A (call (.builtin "list.append") [acc, x]) (fun _ s₅ => ∃ m, m < n ∧ I m s₅) (notedBy (model prog w) A env fun e s' => R (.error e) s') s₄) (notedBy (model prog w) A env fun e s' => R (.error e) s') s₃
            else ∃ m, m < n ∧ I m s₃) (notedBy (model prog w) A env fun e s' => R (.error e) s') s₂) (notedBy (model prog w) A env fun e s' => R (.error e) s') s₁') (notedBy (model prog w) A env fun e s' => R (.error e) s') s₁) (notedBy (model prog w) A env fun e s' => R (.error e) s') s)
    (n : Nat) (h : I n s) : codeAny (model prog w) A (.compLoop (.ListComp elt [⟨target, iter, ifs, 0⟩] scope pos) 0 it acc env) R s := by
  refine codeAny_loop rfl I (fun n s hI => ?_) n h
  show wpAny _ A ((compTurn (.ListComp elt [⟨target, iter, ifs, 0⟩] scope pos) 0 it acc env).onRaise (fun x => do noteFrame x env; theTreesLotGoes x)) _ _ s
  refine wpAny_noted ?_
  rw [compTurn_list]
  refine wpAny_bind (wpAny_standAt (wpAny_bind (wpAny_mono (turn n s hI) (fun r s₁ h₁ => ?_) fun _ _ z => z)))
  cases r with
  | none => exact wpAny_pure h₁
  | some v =>
    refine wpAny_bind (wpAny_mono h₁ (fun _ s₁' h₁' => wpAny_bind (wpAny_mono h₁' (fun _ s₂ h₂ => wpAny_bind (wpAny_mono h₂ (fun ok s₃ h₃ => ?_) fun _ _ z => z)) fun _ _ z => z)) fun _ _ z => z)
    by_cases c : ok = true
    · subst c
      rw [if_pos rfl] at h₃
      exact wpAny_bind (wpAny_bind (wpAny_mono h₃ (fun x s₄ h₄ => wpAny_bind (wpAny_mono h₄ (fun _ s₅ h₅ => wpAny_pure (wpAny_pure ⟨rfl, h₅⟩)) fun _ _ z => z)) fun _ _ z => z))
    · obtain rfl : ok = false := by simpa using c
      rw [if_neg (by decide)] at h₃
      exact wpAny_pure ⟨rfl, h₃⟩
end

end
section
open PySem PySem.W PyProof.Rows PySem.Spec
set_option maxRecDepth 100000
noncomputable def cellObjs : Nat → List (Str × NameKind) → List (Addr × Obj)
  | _, [] => []
  | n, (_, kind) :: r => if kind == .cell then (n, { cls := .type "cell", data := .cell none }) :: cellObjs (n + 1) r else cellObjs n r
theorem cellObjs_ok : ∀ (names : List (Str × NameKind)) (h : Heap), (∀ p ∈ cellObjs h.objs.size names, (pushCells h names).get? p.1 = some p.2 ∧ @LE.le Nat instLENat h.objs.size p.1) ∧ ((cellObjs h.objs.size names).map (·.1)).Nodup
  | [], _ => ⟨fun _ hp => (nomatch hp), List.nodup_nil⟩
  | (name, kind) :: r, h => by
    unfold cellObjs pushCells
    by_cases c : (kind == NameKind.cell) = true
    · rw [if_pos c, if_pos c]
      have ih := cellObjs_ok r (h.push { cls := .type "cell", data := .cell none })
      rw [Heap.size_push] at ih
      refine ⟨fun p hp => ?_, ?_⟩
      · rcases List.mem_cons.mp hp with rfl | hp
        · exact ⟨pushCells_keeps _ _ _ _ (Heap.get?_push_size _ rfl), Nat.le_refl _⟩
        · exact ⟨(ih.1 p hp).1, Nat.le_of_succ_le (ih.1 p hp).2⟩
      · rw [List.map_cons, List.nodup_cons]
        refine ⟨fun hm => ?_, ih.2⟩
        obtain ⟨q, hq, e⟩ := List.mem_map.mp hm
        have := (ih.1 q hq).2
        rw [e] at this
        exact Nat.not_succ_le_self _ this
    · rw [if_neg c, if_neg c]
      exact cellObjs_ok r h
section
variable {M : Model} {A : Around} {E : Value → Shared → Prop} {s : Shared}
theorem newFunctionEnv_block {scope : Scope} {globals : Addr} {closure : List (Str × Addr)} {qual : Str} {code : Value} {outer : Env} {builtins : Addr} {Q : Env → Shared → Prop}
    (h : Q (newEnv scope s.heap.objs.size globals (cellsFrom (s.heap.objs.size + 1) scope.names closure) qual none code (some outer) builtins) { s with heap := pushCells (s.heap.push { cls := .type "dict", data := .dict #[] }) scope.names }) :
    wpAny M A (newFunctionEnv scope globals closure [] qual none code (some outer) builtins) Q E s := by
  simp only [newFunctionEnv, Option.isSome_some, if_true]
  refine wpAny_bind (wpAny_alloc ?_)
  refine wpAny_bind (wpAny_layCells _ (fun name kind cells => by cases hkc : kind == NameKind.cell <;> simp) _ _ _ _ ?_)
  rw [show ({ s with heap := s.heap.push { cls := .type "dict", data := .dict #[] } } : Shared).heap.objs.size = s.heap.objs.size + 1 from Heap.size_push ..]
  refine wpAny_bind ?_
  rw [List.forIn_nil]
  exact wpAny_pure (wpAny_pure h)
end
section
variable {P : Program} {w : World} {A : Around} {E : Value → Shared → Prop} {s : Shared} {env : Env} {h₀ : Heap} {L : Addr}
structure CompWord (P : Program) (w : World) (A : Around) (h₀ : Heap) (L : Addr) (m : Str → Option Value) (led : List (Addr × Obj)) (cenv : Env) (C : Addr) (elt target : Expr) (ifs : List Expr) (I : Addr) (n : Nat)
    (St : Nat → List (Addr × Obj) → Prop) (T : Nat → (Str → Option Value) → List (Addr × Obj) → Prop) (p : Nat → Bool) (F : Nat → Value → Prop) (s : Shared) : Prop where
  item : ∀ i oC mC own led' h tk (E' : Value → Shared → Prop), i < n → St i own → LCg.NsObj oC mC → Fr h₀ L h m → News h₀ L h ((C, oC) :: (own ++ led')) → (∀ q ∈ led, q ∈ led') → (((C, oC) :: (own ++ led')).map (·.1)).Nodup →
    wpAny (model P w) A (pyNext (.ref I)) (fun r s₁ => ∃ v, r = some v ∧ wpAny (model P w) A (letOwnedTupleGo target (.ref I) v) (fun _ s₂ => wpAny (model P w) A (assign target cenv v) (fun _ s₃ =>
      ∃ h' tk' oC' mC' own', s₃ = { s with heap := h', toks := tk' } ∧ LCg.NsObj oC' mC' ∧ T i mC' own' ∧ own'.map (·.1) = own.map (·.1) ∧ Fr h₀ L h' m ∧ News h₀ L h' ((C, oC') :: (own' ++ led'))) E' s₂) E' s₁) E' { s with heap := h, toks := tk }
  done : ∀ oC mC own led' h tk (E' : Value → Shared → Prop), St n own → LCg.NsObj oC mC → Fr h₀ L h m → News h₀ L h ((C, oC) :: (own ++ led')) → (∀ q ∈ led, q ∈ led') → (((C, oC) :: (own ++ led')).map (·.1)).Nodup →
    wpAny (model P w) A (pyNext (.ref I)) (fun r s₁ => r = none ∧ ∃ h' tk', s₁ = { s with heap := h', toks := tk' } ∧ Fr h₀ L h' m ∧ News h₀ L h' ((C, oC) :: led')) E' { s with heap := h, toks := tk }
  tests : ∀ i oC mC own led' h tk (E' : Value → Shared → Prop), i < n → T i mC own → LCg.NsObj oC mC → Fr h₀ L h m → News h₀ L h ((C, oC) :: (own ++ led')) → (∀ q ∈ led, q ∈ led') → (((C, oC) :: (own ++ led')).map (·.1)).Nodup →
    wpAny (model P w) A (forIn ifs true fun c r => if r = true then do let ok ← isTrue c cenv (eval c cenv); pure (ForInStep.yield ok) else pure (ForInStep.yield r)) (fun ok s₁ => ok = p i ∧ ∃ h' tk', s₁ = { s with heap := h', toks := tk' } ∧ Fr h₀ L h' m ∧ News h₀ L h' ((C, oC) :: (own ++ led'))) E' { s with heap := h, toks := tk }
  elt : ∀ i oC mC own led' h tk (E' : Value → Shared → Prop), i < n → p i = true → T i mC own → LCg.NsObj oC mC → Fr h₀ L h m → News h₀ L h ((C, oC) :: (own ++ led')) → (∀ q ∈ led, q ∈ led') → (((C, oC) :: (own ++ led')).map (·.1)).Nodup →
    wpAny (model P w) A (eval elt cenv) (fun y s₁ => F i y ∧ ∃ h' tk', s₁ = { s with heap := h', toks := tk' } ∧ Fr h₀ L h' m ∧ News h₀ L h' ((C, oC) :: (own ++ led'))) E' { s with heap := h, toks := tk }
  next : ∀ i mC own, T i mC own → St (i + 1) own
  self : ∀ own h tk (E' : Value → Shared → Prop), St 0 own → News h₀ L h own → wpAny (model P w) A (pyIter (.ref I)) (fun r s₁ => r = .ref I ∧ s₁ = { s with heap := h, toks := tk }) E' { s with heap := h, toks := tk }
theorem range_filter_succ (p : Nat → Bool) (i : Nat) : (List.range (i + 1)).filter p = (List.range i).filter p ++ if p i then [i] else [] := by
  rw [List.range_succ, List.filter_append]
  cases hp : p i <;> simp [hp]
theorem nodup_swap {X Y Z : List (Addr × Obj)} (hf : X.map (·.1) = Y.map (·.1)) (h : ((X ++ Z).map (·.1)).Nodup) : ((Y ++ Z).map (·.1)).Nodup := by
  rw [List.map_append, ← hf, ← List.map_append]; exact h
theorem comp_led_loop {elt target iter : Expr} {ifs : List Expr} {scope : Scope} {pos : Pos} {I C D : Addr} {n : Nat} {m : Str → Option Value} {led own₀ : List (Addr × Obj)} {oC₀ : Obj} {cenv : Env} {R : Result → Shared → Prop}
    {St : Nat → List (Addr × Obj) → Prop} {T : Nat → (Str → Option Value) → List (Addr × Obj) → Prop} {p : Nat → Bool} {F : Nat → Value → Prop}
    (Wd : CompWord P w A h₀ L m led cenv C elt target ifs I n St T p F s) (hsz : n ≤ sizeLine) {h : Heap} {tk : Nat} {mC₀ : Str → Option Value}
    (F₀ : Fr h₀ L h m) (N₀ : News h₀ L h ((C, oC₀) :: (own₀ ++ (D, W.listOf #[] 0) :: led))) (hC₀ : LCg.NsObj oC₀ mC₀) (hSt : St 0 own₀) (hnd : (((C, oC₀) :: (own₀ ++ (D, W.listOf #[] 0) :: led)).map (·.1)).Nodup)
    (hR : ∀ h' tk' oC mC ys ep, Fr h₀ L h' m → News h₀ L h' ((C, oC) :: (D, W.listOf ys ep) :: led) → LCg.NsObj oC mC → Paired F ((List.range n).filter p) ys.toList → R (.ok .next) { s with heap := h', toks := tk' }) :
    codeAny (model P w) A (.compLoop (.ListComp elt [⟨target, iter, ifs, 0⟩] scope pos) 0 (.ref I) (.ref D) cenv) R { s with heap := h, toks := tk } := by
  have fst : ∀ {oC : Obj} {own : List (Addr × Obj)} {ys : Array Value} {ep : Nat}, own.map (·.1) = own₀.map (·.1) → (((C, oC) :: (own ++ (D, W.listOf ys ep) :: led)).map (·.1)).Nodup := fun {oC own ys ep} e => by
    have : ((C, oC) :: (own ++ (D, W.listOf ys ep) :: led)).map (·.1) = ((C, oC₀) :: (own₀ ++ (D, W.listOf #[] 0) :: led)).map (·.1) := by simp [e]
    rw [this]; exact hnd
  refine comp_loop
    (fun k s' => ∃ h' tk' oC mC own ys ep i, s' = { s with heap := h', toks := tk' } ∧ Fr h₀ L h' m ∧ News h₀ L h' ((C, oC) :: (own ++ (D, W.listOf ys ep) :: led)) ∧ LCg.NsObj oC mC ∧ St i own ∧ own.map (·.1) = own₀.map (·.1) ∧
      Paired F ((List.range i).filter p) ys.toList ∧ i ≤ n ∧ k = n + 1 - i) ?_ (n + 1)
    ⟨h, tk, oC₀, mC₀, own₀, #[], 0, 0, rfl, F₀, N₀, hC₀, hSt, rfl, .nil, Nat.zero_le _, rfl⟩
  intro k s' hZ1
  refine sealG fun GR1 hGR1 => ?_
  obtain ⟨h', tk', oC, mC, own, ys, ep, i, rfl, F', N', hC', hSt', hfst, hpr, hi, rfl⟩ := hZ1
  refine hGR1 ?_
  have hys : ys.size ≤ i := by
    have e1 := hpr.length
    have e2 := List.length_filter_le p (List.range i)
    rw [List.length_range] at e2
    rw [← Array.length_toList]; omega
  by_cases hlt : i < n
  · refine wpAny_mono (Wd.item i oC mC own _ h' tk' _ hlt hSt' hC' F' N' (fun q hq => .tail _ hq) (fst hfst)) (fun r s₁ h₁ => ?_) fun _ _ e => e
    obtain ⟨v, rfl, h₁⟩ := h₁
    refine wpAny_mono h₁ (fun _ s₂ h₂ => wpAny_mono h₂ (fun _ s₃ h₃ => ?_) fun _ _ e => e) fun _ _ e => e
    refine sealG fun GG1 hGG1 => ?_
    obtain ⟨h3, tk3, oC3, mC3, own3, rfl, hC3, hT3, hf3, F3, N3⟩ := h₃
    refine hGG1 ?_
    have hf3' := hf3.trans hfst
    refine wpAny_mono (Wd.tests i oC3 mC3 own3 _ h3 tk3 _ hlt hT3 hC3 F3 N3 (fun q hq => .tail _ hq) (fst hf3')) (fun ok s₄ h₄ => ?_) fun _ _ e => e
    refine sealG fun GG2 hGG2 => ?_
    obtain ⟨rfl, h4, tk4, rfl, F4, N4⟩ := h₄
    refine hGG2 ?_
    by_cases hp : p i = true
    · rw [if_pos hp]
      refine wpAny_mono (Wd.elt i oC3 mC3 own3 _ h4 tk4 _ hlt hp hT3 hC3 F4 N4 (fun q hq => .tail _ hq) (fst hf3')) (fun y s₅ h₅ => ?_) fun _ _ e => e
      refine sealG fun GG3 hGG3 => ?_
      obtain ⟨hFy, h5, tk5, rfl, F5, N5⟩ := h₅
      refine hGG3 ?_
      have nd5 := fst (oC := oC3) (ys := ys) (ep := ep) hf3'
      have hmD : (D, W.listOf ys ep) ∈ (C, oC3) :: (own3 ++ (D, W.listOf ys ep) :: led) := .tail _ (List.mem_append_right _ (.head _))
      refine append_K (its := ys) F5 N5 (upd_putA nd5 hmD) (fun h6 F6 N6 => ?_) (by omega)
      refine ⟨n + 1 - (i + 1), by omega, h6, tk5, oC3, mC3, own3, ys.push y, ep + 1, i + 1, rfl, F6, ?_, hC3, Wd.next i mC3 own3 hT3, hf3', ?_, hlt, rfl⟩
      · intro q hq
        have hne : q.1 ≠ D → (q ∈ (C, oC3) :: (own3 ++ (D, W.listOf ys ep) :: led) ) → q ∈ putA D (W.listOf (ys.push y) (ep + 1)) ((C, oC3) :: (own3 ++ (D, W.listOf ys ep) :: led)) := fun hq1 hq2 => mem_putA_ne (b := q.1) (x := q.2) hq2 hq1
        have key : q = (D, W.listOf (ys.push y) (ep + 1)) ∨ (q.1 ≠ D ∧ q ∈ (C, oC3) :: (own3 ++ (D, W.listOf ys ep) :: led)) := by
          rw [List.map_cons, List.nodup_cons, List.map_append, List.map_cons, List.nodup_append, List.nodup_cons] at nd5
          obtain ⟨n1, _, ⟨n2, _⟩, n3⟩ := nd5
          rcases List.mem_cons.mp hq with rfl | hq
          · exact .inr ⟨fun e => n1 (by rw [show C = D from e]; exact List.mem_append_right _ (.head _)), .head _⟩
          · rcases List.mem_append.mp hq with hq | hq
            · exact .inr ⟨fun e => n3 q.1 (List.mem_map_of_mem hq) D (.head _) e, .tail _ (List.mem_append_left _ hq)⟩
            · rcases List.mem_cons.mp hq with rfl | hq
              · exact .inl rfl
              · exact .inr ⟨fun e => n2 (List.mem_map.mpr ⟨q, hq, e⟩), .tail _ (List.mem_append_right _ (.tail _ hq))⟩
        rcases key with rfl | ⟨k1, k2⟩
        · exact N6 _ (mem_putA_self hmD)
        · exact N6 _ (hne k1 k2)
      · rw [range_filter_succ, if_pos hp, Array.toList_push]
        exact hpr.snoc hFy
    · rw [if_neg hp]
      refine ⟨n + 1 - (i + 1), by omega, h4, tk4, oC3, mC3, own3, ys, ep, i + 1, rfl, F4, N4, hC3, Wd.next i mC3 own3 hT3, hf3', ?_, hlt, rfl⟩
      rw [range_filter_succ, if_neg hp, List.append_nil]
      exact hpr
  · obtain rfl : i = n := by omega
    refine wpAny_mono (Wd.done oC mC own _ h' tk' _ hSt' hC' F' N' (fun q hq => .tail _ hq) (fst hfst)) (fun r s₁ h₁ => ?_) fun _ _ e => e
    refine sealG fun GG4 hGG4 => ?_
    obtain ⟨rfl, h1, tk1, rfl, F1, N1⟩ := h₁
    refine hGG4 ?_
    exact hR h1 tk1 oC mC ys ep F1 N1 hC' hpr
noncomputable def CompAt (P : Program) (w : World) (A : Around) (h₀ : Heap) (L : Addr) (env : Env) (scope : Scope) (cl : List (Str × Addr)) (elt target : Expr) (ifs : List Expr) (Q : Value → Shared → Prop) (it : Value) (s : Shared) : Prop :=
  ∃ (I : Addr) (n : Nat) (m : Str → Option Value) (its led : List (Addr × Obj)) (p : Nat → Bool) (F : Nat → Value → Prop), it = .ref I ∧ n ≤ sizeLine ∧ Fr h₀ L s.heap m ∧ News h₀ L s.heap (its ++ led) ∧ ((its ++ led).map (·.1)).Nodup ∧
    (∀ C, @LE.le Nat instLENat s.heap.objs.size C → ∃ St T, St 0 (cellObjs (C + 1) scope.names ++ its) ∧ CompWord P w A h₀ L m led (compEnvC scope (cellsFrom (C + 1) scope.names cl) C env) C elt target ifs I n St T p F s) ∧
    (∀ D ys ep h' tk', @LE.le Nat instLENat s.heap.objs.size D → Fr h₀ L h' m → News h₀ L h' ((D, W.listOf ys ep) :: led) → (((D, W.listOf ys ep) :: led).map (·.1)).Nodup → Paired F ((List.range n).filter p) ys.toList → Q (.ref D) { s with heap := h', toks := tk' })
theorem comp_led {elt target iter : Expr} {ifs : List Expr} {scope : Scope} {pos : Pos} {cl : List (Str × Addr)} {Q : Value → Shared → Prop} (h₀ : Heap) (L : Addr)
    (hclos : closureFor scope env = pure cl) (hkind : scope.kind = .function) (hnames : ∀ y ∈ scope.names, y.2 = .local → scope.names.lookup y.1 = some .local)
    (h : wpAny (model P w) A (eval iter env) (fun xv s₁ => wpAny (model P w) A (pyIter xv) (fun it s₂ => CompAt P w A h₀ L env scope cl elt target ifs Q it s₂) E s₁) E s)
    (hs : ∀ x, foldedSetIterable iter env x = pure x := by intro _; rfl) :
    wpAny (model P w) A (eval (.ListComp elt [⟨target, iter, ifs, 0⟩] scope pos) env) Q E s := by
  rw [eval_ListComp]
  refine wpAny_comprehension_free (use := none) rfl hs hclos hkind hnames (wpAny_mono h (fun xv s₁ h₁ => wpAny_mono h₁ (fun it s₂ h₂ => ?_) fun _ _ e => e) fun _ _ e => e)
  refine sealG fun GG5 hGG5 => ?_
  obtain ⟨I, n, m, its, led, p, F, rfl, hsz, F₂, N₂, hnd, hW, hQ⟩ := h₂
  refine hGG5 ?_
  refine wpAny_newObj_type (newFunctionEnv_block ?_)
  dsimp only
  generalize hH2 : s₂.heap.push { cls := .type "list", dict := none, data := .seq ([] : List Value).toArray } = H2
  have hC : H2.objs.size = s₂.heap.objs.size + 1 := by rw [← hH2, Heap.size_push]
  refine sealG fun GG6 hGG6 => ?_
  obtain ⟨St, T, hSt, Wd⟩ := hW H2.objs.size (by rw [hC]; exact Nat.le_succ _)
  refine hGG6 ?_
  have hup : ∀ b o, s₂.heap.get? b = some o → (pushCells (H2.push { cls := .type "dict", data := .dict #[] }) scope.names).get? b = some o := fun b o e =>
    pushCells_keeps _ _ _ _ (Heap.get?_push_of_some _ (hH2 ▸ Heap.get?_push_of_some _ e))
  have hlt : ∀ q ∈ its ++ led, @LT.lt Nat instLTNat q.1 s₂.heap.objs.size := fun q hq => Heap.lt_size (N₂ q hq).1
  have fresh₀ : ∀ a, @LE.le Nat instLENat s₂.heap.objs.size a → h₀.get? a = none := fun a ha => by
    cases e : h₀.get? a with
    | none => rfl
    | some o => exact absurd (Heap.lt_size (F₂.keep a o e)) (Nat.not_lt.mpr ha)
  have hLlt : @LT.lt Nat instLTNat L s₂.heap.objs.size := F₂.ns.lt
  have cells := cellObjs_ok scope.names (H2.push { cls := .type "dict", data := .dict #[] })
  rw [Heap.size_push] at cells
  have F₃ : Fr h₀ L (pushCells (H2.push { cls := .type "dict", data := .dict #[] }) scope.names) m := F₂.keeps hup
  have hdata : (pushCells (H2.push { cls := .type "dict", data := .dict #[] }) scope.names).get? s₂.heap.objs.size = some (W.listOf #[] 0) := pushCells_keeps _ _ _ _ (Heap.get?_push_of_some _ (hH2 ▸ Heap.get?_push_size _ rfl))
  have hCo : (pushCells (H2.push { cls := .type "dict", data := .dict #[] }) scope.names).get? H2.objs.size = some ({ cls := .type "dict", data := .dict #[] } : Obj) := pushCells_keeps _ _ _ _ (Heap.get?_push_size _ rfl)
  have hns : LCg.NsObj ({ cls := .type "dict", data := .dict #[] } : Obj) (fun _ => none) := ⟨#[], 0, rfl, fun _ hq => (by simp at hq), fun _ => rfl⟩
  have ne : ∀ a : Nat, s₂.heap.objs.size ≤ a → (a : Addr) ≠ L ∧ h₀.get? a = none := fun a ha => ⟨Nat.ne_of_gt (Nat.lt_of_lt_of_le hLlt ha), fresh₀ a ha⟩
  have N₃ : News h₀ L (pushCells (H2.push { cls := .type "dict", data := .dict #[] }) scope.names) ((H2.objs.size, ({ cls := .type "dict", data := .dict #[] } : Obj)) :: ((cellObjs (H2.objs.size + 1) scope.names ++ its) ++ (s₂.heap.objs.size, W.listOf #[] 0) :: led)) := fun q hq => by
    rcases List.mem_cons.mp hq with rfl | hq
    · exact ⟨hCo, ne _ (by rw [hC]; exact Nat.le_succ _)⟩
    · rcases List.mem_append.mp hq with hq | hq
      · rcases List.mem_append.mp hq with hq | hq
        · exact ⟨(cells.1 q hq).1, ne _ (Nat.le_trans (by rw [hC]; exact Nat.le_succ_of_le (Nat.le_succ _)) (cells.1 q hq).2)⟩
        · have z := N₂ q (List.mem_append_left _ hq); exact ⟨hup _ _ z.1, z.2⟩
      · rcases List.mem_cons.mp hq with rfl | hq
        · exact ⟨hdata, ne _ (Nat.le_refl _)⟩
        · have z := N₂ q (List.mem_append_right _ hq); exact ⟨hup _ _ z.1, z.2⟩
  have hnd₃ : (((H2.objs.size, ({ cls := .type "dict", data := .dict #[] } : Obj)) :: ((cellObjs (H2.objs.size + 1) scope.names ++ its) ++ (s₂.heap.objs.size, W.listOf #[] 0) :: led)).map (·.1)).Nodup := by
    have c1 : ∀ q ∈ cellObjs (H2.objs.size + 1) scope.names, @LT.lt Nat instLTNat (s₂.heap.objs.size + 1) q.1 := fun q hq => by have := (cells.1 q hq).2; rw [hC] at this; exact this
    rw [List.map_append, List.nodup_append] at hnd
    obtain ⟨d1, d2, d3⟩ := hnd
    rw [List.map_cons, List.nodup_cons, List.map_append, List.map_append, List.map_cons, List.nodup_append, List.nodup_append, List.nodup_cons]
    refine ⟨fun hm => ?_, ⟨cells.2, d1, fun a ha b hb e => ?_⟩, ⟨fun hm => ?_, d2⟩, fun a ha b hb e => ?_⟩
    · rw [show H2.objs.size = s₂.heap.objs.size + 1 from hC] at hm
      rcases List.mem_append.mp hm with hm | hm
      · rcases List.mem_append.mp hm with hm | hm
        · obtain ⟨q, hq, e⟩ := List.mem_map.mp hm
          have := c1 q (by rw [hC]; exact hq)
          rw [e] at this; exact absurd this (Nat.lt_irrefl _)
        · obtain ⟨q, hq, e⟩ := List.mem_map.mp hm
          have := hlt q (List.mem_append_left _ hq)
          rw [e] at this; exact absurd this (Nat.not_lt.mpr (Nat.le_succ _))
      · rcases List.mem_cons.mp hm with e | hm
        · exact absurd e (Nat.succ_ne_self _)
        · obtain ⟨q, hq, e⟩ := List.mem_map.mp hm
          have := hlt q (List.mem_append_right _ hq)
          rw [e] at this; exact absurd this (Nat.not_lt.mpr (Nat.le_succ _))
    · obtain ⟨q, hq, e1⟩ := List.mem_map.mp ha
      obtain ⟨r, hr, e2⟩ := List.mem_map.mp hb
      have k1 := c1 q hq
      have k2 := hlt r (List.mem_append_left _ hr)
      rw [e1, e] at k1; rw [e2] at k2
      exact absurd (Nat.lt_trans k1 k2) (Nat.not_lt.mpr (Nat.le_succ _))
    · obtain ⟨q, hq, e⟩ := List.mem_map.mp hm
      have := hlt q (List.mem_append_right _ hq)
      rw [e] at this; exact absurd this (Nat.lt_irrefl _)
    · rcases List.mem_append.mp ha with ha | ha
      · obtain ⟨q, hq, e1⟩ := List.mem_map.mp ha
        have k1 := c1 q hq
        rw [e1, e] at k1
        rcases List.mem_cons.mp hb with rfl | hb
        · exact absurd k1 (Nat.not_lt.mpr (Nat.le_succ _))
        · obtain ⟨r, hr, e2⟩ := List.mem_map.mp hb
          have k2 := hlt r (List.mem_append_right _ hr)
          rw [e2] at k2
          exact absurd (Nat.lt_trans k1 k2) (Nat.not_lt.mpr (Nat.le_succ _))
      · rcases List.mem_cons.mp hb with rfl | hb
        · obtain ⟨q, hq, e1⟩ := List.mem_map.mp ha
          have := hlt q (List.mem_append_left _ hq)
          rw [e1, e] at this; exact absurd this (Nat.lt_irrefl _)
        · exact d3 a ha b hb e
  have loop := comp_led_loop (iter := iter) (scope := scope) (pos := pos) (tk := s₂.toks) (R := compPost (model P w) A E none Q (.ref s₂.heap.objs.size) H2.objs.size) Wd hsz F₃ N₃ hns hSt hnd₃ (fun h' tk' oC mC ys ep F' N' hC' hpr => by
    refine ⟨mC, hC'.ns (N' _ (.head _)).1, fun h'' hs'' => ?_⟩
    have hCne : ∀ q ∈ (s₂.heap.objs.size, W.listOf ys ep) :: led, q.1 ≠ H2.objs.size := fun q hq e => by
      rw [hC] at e
      rcases List.mem_cons.mp hq with rfl | hq
      · exact absurd e.symm (Nat.succ_ne_self _)
      · have := hlt q (List.mem_append_right _ hq)
        rw [e] at this; exact absurd this (Nat.not_lt.mpr (Nat.le_succ _))
    refine hQ _ ys ep h'' tk' (Nat.le_refl _) (F'.change hs'' (N' _ (.head _)).2.1 (N' _ (.head _)).2.2) (fun q hq => ⟨(hs''.2 _ (hCne q hq)).trans (N' q (.tail _ hq)).1, (N' q (.tail _ hq)).2⟩) ?_ hpr
    rw [List.map_cons, List.nodup_cons]
    rw [List.map_append, List.nodup_append] at hnd
    refine ⟨fun hm => ?_, hnd.2.1⟩
    obtain ⟨q, hq, e⟩ := List.mem_map.mp hm
    have := hlt q (List.mem_append_right _ hq)
    rw [e] at this; exact absurd this (Nat.lt_irrefl _))
  refine codeAny_compStart_list loop ?_
  refine wpAny_mono (Wd.self (cellObjs (H2.objs.size + 1) scope.names ++ its) _ s₂.toks _ hSt fun q hq => N₃ q (.tail _ (List.mem_append_left _ hq))) (fun r s₁ h₁ => ?_) fun _ _ e => e
  obtain ⟨rfl, rfl⟩ := h₁
  exact loop
end

end
section
open PySem PySem.W PyProof.Rows PySem.Spec
set_option maxRecDepth 100000
section
variable {P : Program} {w : World} {A : Around} {E : Value → Shared → Prop} {s : Shared} {env : Env} {h₀ : Heap} {L C c : Addr} {m mC : Str → Option Value} {scope : Scope} {cs : List (Str × Addr)} {rest led : List (Addr × Obj)} {oC oc : Obj} {x y : Str} {v : Value}
theorem ns_setHead {d : Addr} {o o' : Obj} {h h' : Heap} (N : News h₀ L h ((d, o) :: rest)) (hnd : (((d, o) :: rest).map (·.1)).Nodup) (hs : Heap.SameBut d h h') (ho : h'.get? d = some o') : News h₀ L h' ((d, o') :: rest) :=
  N.setHead (fun p hp e => by rw [List.map_cons, List.nodup_cons] at hnd; exact hnd.1 (List.mem_map.mpr ⟨p, hp, e⟩)) hs ho
theorem store_own {px : Pos} {Q : Unit → Shared → Prop} (F : Fr h₀ L s.heap m) (N : News h₀ L s.heap ((C, oC) :: rest)) (hnd : (((C, oC) :: rest).map (·.1)).Nodup) (hC : LCg.NsObj oC mC) (hk : scope.kind = .function) (hx : scope.names.lookup x = some .local)
    (h : ∀ h' tk' oC', LCg.NsObj oC' (fun y => if y = x then some v else mC y) → Fr h₀ L h' m → News h₀ L h' ((C, oC') :: rest) → Q () { s with heap := h', toks := tk' }) : wpAny (model P w) A (assign (.Name x px) (compEnvC scope cs C env) v) Q E s := by
  have z := N _ (.head _)
  refine wpAny_assign_Name (wpAny_storeName_local (lookup_relabel_local hx) (hC.ns z.1) (fun h' hn' hs' => ?_) (by simp [compEnvC, relabel, hk]))
  obtain ⟨oC', ho, hC'⟩ := LCg.ns_obj hn'
  exact h h' _ oC' hC' (F.change hs' z.2.1 z.2.2) (ns_setHead N hnd hs' ho)
theorem store_owncell {px : Pos} {Q : Unit → Shared → Prop} {v₀ : Option Value} (F : Fr h₀ L s.heap m) (N : News h₀ L s.heap ((C, oC) :: (c, oc) :: rest)) (hnd : (((C, oC) :: (c, oc) :: rest).map (·.1)).Nodup) (hd : oc.data = .cell v₀) (hk : scope.kind = .function)
    (hx : (compEnvC scope cs C env).kindOf x = some .cell) (hc : cs.lookup x = some c)
    (h : ∀ h' tk' oc', oc'.data = .cell (some v) → Fr h₀ L h' m → News h₀ L h' ((C, oC) :: (c, oc') :: rest) → Q () { s with heap := h', toks := tk' }) : wpAny (model P w) A (assign (.Name x px) (compEnvC scope cs C env) v) Q E s := by
  have z := N _ (.tail _ (.head _))
  refine wpAny_assign_Name (wpAny_storeName_cell (by simp [compEnvC, relabel, hk]) hx hc ⟨oc, z.1, hd⟩ (fun h' hn' hs' => ?_))
  obtain ⟨oc', ho, hd'⟩ := hn'
  rw [List.map_cons, List.nodup_cons, List.map_cons, List.nodup_cons] at hnd
  refine h h' s.toks oc' hd' (F.change hs' z.2.1 z.2.2) (N.setSecond (fun e => hnd.1 (by rw [show C = c from e]; exact .head _)) (fun p hp e => hnd.2.1 (List.mem_map.mpr ⟨p, hp, e⟩)) hs' ho)
theorem extBut_up {h h' : Heap} (hs : Heap.ExtBut h.objs.size h h') : ∀ b o, h.get? b = some o → h'.get? b = some o := fun b o e => hs b o (Nat.ne_of_lt (Heap.lt_size e)) e
theorem store_own2 {px py tp : Pos} {k} {t : Addr} {v₁ v₂ : Value} {Q : Unit → Shared → Prop} (hh : A.handled = none) (F : Fr h₀ L s.heap m) (N : News h₀ L s.heap ((C, oC) :: rest)) (hnd : (((C, oC) :: rest).map (·.1)).Nodup) (hC : LCg.NsObj oC mC) (hk : scope.kind = .function)
    (hx : scope.names.lookup x = some .local) (hy : scope.names.lookup y = some .local) (hxy : x ≠ y) (ht : IsTup s.heap t #[v₁, v₂])
    (h : ∀ h' tk' oC' mC', LCg.NsObj oC' mC' → mC' x = some v₁ → mC' y = some v₂ → Fr h₀ L h' m → News h₀ L h' ((C, oC') :: rest) → Q () { s with heap := h', toks := tk' }) : wpAny (model P w) A (assign (.Tuple [.Name x px, .Name y py] k tp) (compEnvC scope cs C env) (.ref t)) Q E s := by
  refine assign_Tuple_tuple hh ht rfl rfl fun h₁ he => ?_
  have up := extBut_up he
  refine assignInOrder_cons (store_own (F.keeps up) (N.grown up) hnd hC hk hx fun h₂ tk₂ oC₂ hC₂ F₂ N₂ => ?_)
  refine assignInOrder_cons (store_own F₂ N₂ hnd hC₂ hk hy fun h₃ tk₃ oC₃ hC₃ F₃ N₃ => ?_)
  exact assignInOrder_nil (h h₃ tk₃ oC₃ _ hC₃ (by simp [hxy]) (by simp) F₃ N₃)
noncomputable def IsIt (io : Obj) (l : Addr) (i : Nat) : Prop := io.cls = .type "list_iterator" ∧ io.data = .fields #[.ref l, .int i 0]
theorem IsIt.at {h : Heap} {io : Obj} {I l : Addr} {i : Nat} (x : IsIt io l i) (e : h.get? I = some io) : h.IsListIter I l i := ⟨io, e, x⟩
theorem news_list {h : Heap} {l : Addr} {items : Array Value} {ep : Nat} (N : News h₀ L h led) (hl : (l, W.listOf items ep) ∈ led) : h.IsList l items := ⟨_, (N _ hl).1, rfl, _, rfl⟩
theorem next_led {I l : Addr} {i ep : Nat} {items : Array Value} {io : Obj} {l1 l2 : List (Addr × Obj)} {Q : Option Value → Shared → Prop} (F : Fr h₀ L s.heap m) (N : News h₀ L s.heap (l1 ++ (I, io) :: l2)) (hnd : ((l1 ++ (I, io) :: l2).map (·.1)).Nodup) (hi : IsIt io l i) (hl : (l, W.listOf items ep) ∈ l1 ++ (I, io) :: l2) (hx : items[i]? = some v)
    (h : ∀ h' io', IsIt io' l (i + 1) → Fr h₀ L h' m → News h₀ L h' (l1 ++ (I, io') :: l2) → Q (some v) { s with heap := h' }) : wpAny (model P w) A (pyNext (.ref I)) Q E s := by
  have z := N (I, io) (List.mem_append_right _ (.head _))
  refine wpAny_pyNext_list_item (hi.at z.1) (news_list N hl) hx fun h' hit' hs' => ?_
  obtain ⟨io', ho', hi'⟩ := hit'
  rw [List.map_append, List.map_cons, List.nodup_append, List.nodup_cons] at hnd
  refine h h' io' hi' (F.change hs' z.2.1 z.2.2) (N.setIn (fun p hp e => hnd.2.2 _ (List.mem_map_of_mem hp) I (.head _) e) (fun p hp e => hnd.2.1.1 (List.mem_map.mpr ⟨p, hp, e⟩)) hs' ho')
theorem end_led {I l : Addr} {i ep : Nat} {items : Array Value} {io : Obj} {l1 l2 : List (Addr × Obj)} {Q : Option Value → Shared → Prop} (hh : A.handled = none) (F : Fr h₀ L s.heap m) (N : News h₀ L s.heap (l1 ++ (I, io) :: l2)) (hnd : ((l1 ++ (I, io) :: l2).map (·.1)).Nodup) (hi : IsIt io l i) (hl : (l, W.listOf items ep) ∈ l1 ++ (I, io) :: l2) (hx : items[i]? = none)
    (h : ∀ h', Fr h₀ L h' m → News h₀ L h' (l1 ++ l2) → Q none { s with heap := h' }) : wpAny (model P w) A (pyNext (.ref I)) Q E s := by
  have z := N (I, io) (List.mem_append_right _ (.head _))
  refine wpAny_pyNext_list_end hh (hi.at z.1) (news_list N hl) hx fun h' he' => ?_
  rw [List.map_append, List.map_cons, List.nodup_append, List.nodup_cons] at hnd
  refine h h' (LCg.fr_but F (fun b o hb e => he' b o (by simpa using hb) e) (Ne.symm z.2.1) z.2.2) fun p hp => ?_
  have hne : p.1 ≠ I := fun e => by
    rcases List.mem_append.mp hp with hp | hp
    · exact hnd.2.2 _ (List.mem_map_of_mem hp) I (.head _) e
    · exact hnd.2.1.1 (List.mem_map.mpr ⟨p, hp, e⟩)
  have zp := N p (by rcases List.mem_append.mp hp with hp | hp <;> first | exact List.mem_append_left _ hp | exact List.mem_append_right _ (.tail _ hp))
  exact ⟨he' _ _ hne zp.1, zp.2⟩
end
section
variable {P : Program} {w : World} {A : Around} {E : Value → Shared → Prop} {s : Shared} {env : Env} {h₀ : Heap} {L l : Addr} {m : Str → Option Value} {scope : Scope} {cl : List (Str × Addr)} {led : List (Addr × Obj)} {x y : Str} {vs : List Value} {ep : Nat} {elt : Expr} {ifs : List Expr} {Q : Value → Shared → Prop} {p : Nat → Bool} {Fy : Nat → Value → Prop}
theorem compAt_cell {px : Pos} (hh : A.handled = none) (F : Fr h₀ L s.heap m) (N : News h₀ L s.heap led) (hnd : (led.map (·.1)).Nodup) (hl : (l, W.listOf vs.toArray ep) ∈ led) (hsz : vs.length ≤ sizeLine)
    (hco : ∀ n, cellObjs n scope.names = [(n, ({ cls := .type "cell", data := .cell none } : Obj))]) (hcf : ∀ n, cellsFrom n scope.names cl = (x, n) :: cl) (hk : scope.kind = .function) (hx : ∀ C, (compEnvC scope ((x, C + 1) :: cl) C env).kindOf x = some .cell) (p : Nat → Bool) (Fy : Nat → Value → Prop)
    (tests : ∀ C I i v oC mC oc io led' h tk (E' : Value → Shared → Prop), vs[i]? = some v → oc.data = .cell (some v) → LCg.NsObj oC mC → Fr h₀ L h m → News h₀ L h ((C, oC) :: (C + 1, oc) :: (I, io) :: led') → (∀ q ∈ led, q ∈ led') → (((C, oC) :: (C + 1, oc) :: (I, io) :: led').map (·.1)).Nodup →
      wpAny (model P w) A (forIn ifs true fun c r => if r = true then do let ok ← isTrue c (compEnvC scope ((x, C + 1) :: cl) C env) (eval c (compEnvC scope ((x, C + 1) :: cl) C env)); pure (ForInStep.yield ok) else pure (ForInStep.yield r))
        (fun ok s₁ => ok = p i ∧ ∃ h' tk', s₁ = { s with heap := h', toks := tk' } ∧ Fr h₀ L h' m ∧ News h₀ L h' ((C, oC) :: (C + 1, oc) :: (I, io) :: led')) E' { s with heap := h, toks := tk })
    (elts : ∀ C I i v oC mC oc io led' h tk (E' : Value → Shared → Prop), vs[i]? = some v → p i = true → oc.data = .cell (some v) → LCg.NsObj oC mC → Fr h₀ L h m → News h₀ L h ((C, oC) :: (C + 1, oc) :: (I, io) :: led') → (∀ q ∈ led, q ∈ led') → (((C, oC) :: (C + 1, oc) :: (I, io) :: led').map (·.1)).Nodup →
      wpAny (model P w) A (eval elt (compEnvC scope ((x, C + 1) :: cl) C env)) (fun y s₁ => Fy i y ∧ ∃ h' tk', s₁ = { s with heap := h', toks := tk' } ∧ Fr h₀ L h' m ∧ News h₀ L h' ((C, oC) :: (C + 1, oc) :: (I, io) :: led')) E' { s with heap := h, toks := tk })
    (fin : ∀ D ys ep h' tk', @LE.le Nat instLENat (bnd led) D → Fr h₀ L h' m → News h₀ L h' ((D, W.listOf ys ep) :: led) → (((D, W.listOf ys ep) :: led).map (·.1)).Nodup → Paired Fy ((List.range vs.length).filter p) ys.toList → Q (.ref D) { s with heap := h', toks := tk' }) :
    wpAny (model P w) A (pyIter (.ref l)) (fun it s₂ => CompAt P w A h₀ L env scope cl elt (.Name x px) ifs Q it s₂) E s := by
  refine wpAny_pyIter_list (news_list N hl) ?_
  have N' := N.push F { cls := .type "list_iterator", data := .fields #[.ref l, .int 0 0] }
  refine ⟨_, vs.length, m, [(s.heap.objs.size, { cls := .type "list_iterator", data := .fields #[.ref l, .int 0 0] })], led, p, Fy, rfl, hsz, F.push _, N', nodup_cons_of hnd (bnd_news N), fun C hC => ?_, fun D ys ep' h' tk' hD F' N'' hn' hp => ?_⟩
  · refine ⟨fun i own => ∃ oc io v, own = [(C + 1, oc), (s.heap.objs.size, io)] ∧ oc.data = .cell v ∧ IsIt io l i, fun i mC own => ∃ oc io v, own = [(C + 1, oc), (s.heap.objs.size, io)] ∧ oc.data = .cell (some v) ∧ vs[i]? = some v ∧ IsIt io l (i + 1), ?_, ?_⟩
    · rw [hco]; exact ⟨_, _, none, rfl, rfl, rfl, rfl⟩
    · rw [hcf]
      refine ⟨?_, ?_, ?_, ?_, ?_, ?_⟩
      · intro i oC mC own led' h tk E' hi hZ1 hC' F₁ N₁ hsub nd₁
        refine sealG fun GR1 hGR1 => ?_
        obtain ⟨oc, io, v₀, rfl, hd, hit⟩ := hZ1
        refine hGR1 ?_
        obtain ⟨v, hv⟩ : ∃ v, vs[i]? = some v := ⟨_, List.getElem?_eq_getElem hi⟩
        refine next_led (l1 := [(C, oC), (C + 1, oc)]) (l2 := led') (v := v) F₁ N₁ nd₁ hit (.tail _ (.tail _ (.tail _ (hsub _ hl)))) (by simpa using hv) fun h₂ io' hit' F₂ N₂ => ?_
        refine ⟨v, rfl, wpAny_pure ?_⟩
        refine store_owncell (c := C + 1) (oc := oc) F₂ N₂ nd₁ hd hk (hx C) (by rw [List.lookup_cons]; simp) fun h₃ tk₃ oc' hd' F₃ N₃ => ?_
        exact ⟨h₃, tk₃, oC, mC, [(C + 1, oc'), (s.heap.objs.size, io')], rfl, hC', ⟨oc', io', v, rfl, hd', hv, hit'⟩, rfl, F₃, N₃⟩
      · intro oC mC own led' h tk E' hZ2 hC' F₁ N₁ hsub nd₁
        refine sealG fun GR2 hGR2 => ?_
        obtain ⟨oc, io, v₀, rfl, hd, hit⟩ := hZ2
        refine hGR2 ?_
        refine end_led (l1 := [(C, oC), (C + 1, oc)]) (l2 := led') hh F₁ N₁ nd₁ hit (.tail _ (.tail _ (.tail _ (hsub _ hl)))) (by simp) fun h₂ F₂ N₂ => ?_
        exact ⟨rfl, h₂, tk, rfl, F₂, fun q hq => N₂ q (by rcases List.mem_cons.mp hq with rfl | hq <;> first | exact .head _ | exact .tail _ (.tail _ hq))⟩
      · intro i oC mC own led' h tk E' hi hZ3 hC' F₁ N₁ hsub nd₁
        refine sealG fun GR3 hGR3 => ?_
        obtain ⟨oc, io, v, rfl, hd, hv, hit⟩ := hZ3
        refine hGR3 ?_
        exact tests C _ i v oC mC oc io led' h tk E' hv hd hC' F₁ N₁ hsub nd₁
      · intro i oC mC own led' h tk E' hi hpi hZ4 hC' F₁ N₁ hsub nd₁
        refine sealG fun GR4 hGR4 => ?_
        obtain ⟨oc, io, v, rfl, hd, hv, hit⟩ := hZ4
        refine hGR4 ?_
        exact elts C _ i v oC mC oc io led' h tk E' hv hpi hd hC' F₁ N₁ hsub nd₁
      · intro i mC own hZ5
        refine sealG fun GR5 hGR5 => ?_
        obtain ⟨oc, io, v, rfl, hd, hv, hit⟩ := hZ5
        refine hGR5 ?_
        exact ⟨oc, io, some v, rfl, hd, hit⟩
      · intro own h tk E' hZ6 N₁
        refine sealG fun GR6 hGR6 => ?_
        obtain ⟨oc, io, v₀, rfl, hd, hit⟩ := hZ6
        refine hGR6 ?_
        exact wpAny_pyIter_listiter (hit.at (N₁ _ (.tail _ (.head _))).1) ⟨rfl, rfl⟩
  · exact fin D ys ep' h' tk' (Nat.le_trans (bnd_news N) (Nat.le_trans (by show s.heap.objs.size ≤ (s.heap.push _).objs.size; rw [Heap.size_push]; exact Nat.le_succ _) hD)) F' N'' hn' hp
theorem compAt_pairs {px py tp : Pos} {k} {needs : Needs} (hh : A.handled = none) (F : Fr h₀ L s.heap m) (N : News h₀ L s.heap led) (hnd : (led.map (·.1)).Nodup) (hl : (l, W.listOf vs.toArray ep) ∈ led) (hws : NeedsAre led vs needs) (hsz : vs.length ≤ sizeLine)
    (hco : ∀ n, cellObjs n scope.names = []) (hcf : ∀ n, cellsFrom n scope.names cl = cl) (hk : scope.kind = .function) (hx : scope.names.lookup x = some .local) (hy : scope.names.lookup y = some .local) (hxy : x ≠ y) (p : Nat → Bool) (Fy : Nat → Value → Prop)
    (tests : ∀ C I i u v tu tv oC mC io led' h tk (E' : Value → Shared → Prop), needs[i]? = some (u, v) → mC x = some (.str u tu) → mC y = some (.str v tv) → LCg.NsObj oC mC → Fr h₀ L h m → News h₀ L h ((C, oC) :: (I, io) :: led') → (∀ q ∈ led, q ∈ led') → (((C, oC) :: (I, io) :: led').map (·.1)).Nodup →
      wpAny (model P w) A (forIn ifs true fun c r => if r = true then do let ok ← isTrue c (compEnvC scope cl C env) (eval c (compEnvC scope cl C env)); pure (ForInStep.yield ok) else pure (ForInStep.yield r))
        (fun ok s₁ => ok = p i ∧ ∃ h' tk', s₁ = { s with heap := h', toks := tk' } ∧ Fr h₀ L h' m ∧ News h₀ L h' ((C, oC) :: (I, io) :: led')) E' { s with heap := h, toks := tk })
    (elts : ∀ C I i u v tu tv oC mC io led' h tk (E' : Value → Shared → Prop), needs[i]? = some (u, v) → p i = true → mC x = some (.str u tu) → mC y = some (.str v tv) → LCg.NsObj oC mC → Fr h₀ L h m → News h₀ L h ((C, oC) :: (I, io) :: led') → (∀ q ∈ led, q ∈ led') → (((C, oC) :: (I, io) :: led').map (·.1)).Nodup →
      wpAny (model P w) A (eval elt (compEnvC scope cl C env)) (fun y s₁ => Fy i y ∧ ∃ h' tk', s₁ = { s with heap := h', toks := tk' } ∧ Fr h₀ L h' m ∧ News h₀ L h' ((C, oC) :: (I, io) :: led')) E' { s with heap := h, toks := tk })
    (fin : ∀ D ys ep h' tk', @LE.le Nat instLENat (bnd led) D → Fr h₀ L h' m → News h₀ L h' ((D, W.listOf ys ep) :: led) → (((D, W.listOf ys ep) :: led).map (·.1)).Nodup → Paired Fy ((List.range needs.length).filter p) ys.toList → Q (.ref D) { s with heap := h', toks := tk' }) :
    wpAny (model P w) A (pyIter (.ref l)) (fun it s₂ => CompAt P w A h₀ L env scope cl elt (.Tuple [.Name x px, .Name y py] k tp) ifs Q it s₂) E s := by
  refine wpAny_pyIter_list (news_list N hl) ?_
  have N' := N.push F { cls := .type "list_iterator", data := .fields #[.ref l, .int 0 0] }
  refine ⟨_, vs.length, m, [(s.heap.objs.size, { cls := .type "list_iterator", data := .fields #[.ref l, .int 0 0] })], led, p, Fy, rfl, hsz, F.push _, N', nodup_cons_of hnd (bnd_news N), fun C hC => ?_, fun D ys ep' h' tk' hD F' N'' hn' hp => ?_⟩
  · refine ⟨fun i own => ∃ io, own = [(s.heap.objs.size, io)] ∧ IsIt io l i, fun i mC own => ∃ io u v tu tv, own = [(s.heap.objs.size, io)] ∧ needs[i]? = some (u, v) ∧ mC x = some (.str u tu) ∧ mC y = some (.str v tv) ∧ IsIt io l (i + 1), ?_, ?_⟩
    · rw [hco]; exact ⟨_, rfl, rfl, rfl⟩
    · rw [hcf]
      refine ⟨?_, ?_, ?_, ?_, ?_, ?_⟩
      · intro i oC mC own led' h tk E' hi hZ7 hC' F₁ N₁ hsub nd₁
        refine sealG fun GR7 hGR7 => ?_
        obtain ⟨io, rfl, hit⟩ := hZ7
        refine hGR7 ?_
        refine sealG fun GG1 hGG1 => ?_
        obtain ⟨v, hv⟩ : ∃ v, vs[i]? = some v := ⟨_, List.getElem?_eq_getElem hi⟩
        obtain ⟨a, u1, v1, t1, t2, n1, rfl, hni, ha⟩ := hws.get hv
        refine hGG1 ?_
        refine next_led (l1 := [(C, oC)]) (l2 := led') (v := .ref a) F₁ N₁ nd₁ hit (.tail _ (.tail _ (hsub _ hl))) (by simpa using hv) fun h₂ io' hit' F₂ N₂ => ?_
        refine ⟨.ref a, rfl, ?_⟩
        refine wpAny_letOwnedTupleGo_listiter (hit'.at (N₂ (s.heap.objs.size, io') (.tail _ (.head _))).1) ?_
        refine store_own2 (rest := (s.heap.objs.size, io') :: led') hh F₂ N₂ nd₁ hC' hk hx hy hxy ⟨_, (N₂ _ (.tail _ (.tail _ (hsub _ ha)))).1, rfl, _, rfl⟩ fun h₃ tk₃ oC' mC' hC₃ e1 e2 F₃ N₃ => ?_
        exact ⟨h₃, tk₃, oC', mC', [(s.heap.objs.size, io')], rfl, hC₃, ⟨io', u1, v1, t1, t2, rfl, hni, e1, e2, hit'⟩, rfl, F₃, N₃⟩
      · intro oC mC own led' h tk E' hZ8 hC' F₁ N₁ hsub nd₁
        refine sealG fun GR8 hGR8 => ?_
        obtain ⟨io, rfl, hit⟩ := hZ8
        refine hGR8 ?_
        refine end_led (l1 := [(C, oC)]) (l2 := led') hh F₁ N₁ nd₁ hit (.tail _ (.tail _ (hsub _ hl))) (by simp) fun h₂ F₂ N₂ => ?_
        exact ⟨rfl, h₂, tk, rfl, F₂, N₂⟩
      · intro i oC mC own led' h tk E' hi hZ9 hC' F₁ N₁ hsub nd₁
        refine sealG fun GR9 hGR9 => ?_
        obtain ⟨io, u, v, tu, tv, rfl, hni, e1, e2, hit⟩ := hZ9
        refine hGR9 ?_
        exact tests C _ i u v tu tv oC mC io led' h tk E' hni e1 e2 hC' F₁ N₁ hsub nd₁
      · intro i oC mC own led' h tk E' hi hpi hZ10 hC' F₁ N₁ hsub nd₁
        refine sealG fun GR10 hGR10 => ?_
        obtain ⟨io, u, v, tu, tv, rfl, hni, e1, e2, hit⟩ := hZ10
        refine hGR10 ?_
        exact elts C _ i u v tu tv oC mC io led' h tk E' hni hpi e1 e2 hC' F₁ N₁ hsub nd₁
      · intro i mC own hZ11
        refine sealG fun GR11 hGR11 => ?_
        obtain ⟨io, u, v, tu, tv, rfl, hni, e1, e2, hit⟩ := hZ11
        refine hGR11 ?_
        exact ⟨io, rfl, hit⟩
      · intro own h tk E' hZ12 N₁
        refine sealG fun GR12 hGR12 => ?_
        obtain ⟨io, rfl, hit⟩ := hZ12
        refine hGR12 ?_
        exact wpAny_pyIter_listiter (hit.at (N₁ _ (.head _)).1) ⟨rfl, rfl⟩
  · rw [hws.len] at hp
    exact fin D ys ep' h' tk' (Nat.le_trans (bnd_news N) (Nat.le_trans (by show s.heap.objs.size ≤ (s.heap.push _).objs.size; rw [Heap.size_push]; exact Nat.le_succ _) hD)) F' N'' hn' hp
noncomputable abbrev enumObj (it : Addr) (i : Int) (old : Value) : Obj := { cls := .type "enumerate", dict := none, data := .fields #[.none, .bool false, .ref it, rawInt i, .none, old], slots := #[] }
theorem compAt_enum {e it : Addr} {px py tp : Pos} {k} {io₀ : Obj} (hio : IsIt io₀ l 0) (hh : A.handled = none) (F : Fr h₀ L s.heap m) (N : News h₀ L s.heap ((e, enumObj it 0 .none) :: (it, io₀) :: led)) (hnd : (((e, enumObj it 0 .none) :: (it, io₀) :: led).map (·.1)).Nodup) (hl : (l, W.listOf vs.toArray ep) ∈ led) (hsz : vs.length ≤ sizeLine)
    (hco : ∀ n, cellObjs n scope.names = []) (hcf : ∀ n, cellsFrom n scope.names cl = cl) (hk : scope.kind = .function) (hx : scope.names.lookup x = some .local) (hy : scope.names.lookup y = some .local) (hxy : x ≠ y) (p : Nat → Bool) (Fy : Nat → Value → Prop)
    (tests : ∀ C i v tu oC mC oe io led' h tk (E' : Value → Shared → Prop), vs[i]? = some v → mC x = some (.int i tu) → mC y = some v → LCg.NsObj oC mC → Fr h₀ L h m → News h₀ L h ((C, oC) :: (e, oe) :: (it, io) :: led') → (∀ q ∈ led, q ∈ led') → (((C, oC) :: (e, oe) :: (it, io) :: led').map (·.1)).Nodup →
      wpAny (model P w) A (forIn ifs true fun c r => if r = true then do let ok ← isTrue c (compEnvC scope cl C env) (eval c (compEnvC scope cl C env)); pure (ForInStep.yield ok) else pure (ForInStep.yield r))
        (fun ok s₁ => ok = p i ∧ ∃ h' tk', s₁ = { s with heap := h', toks := tk' } ∧ Fr h₀ L h' m ∧ News h₀ L h' ((C, oC) :: (e, oe) :: (it, io) :: led')) E' { s with heap := h, toks := tk })
    (elts : ∀ C i v tu oC mC oe io led' h tk (E' : Value → Shared → Prop), vs[i]? = some v → p i = true → mC x = some (.int i tu) → mC y = some v → LCg.NsObj oC mC → Fr h₀ L h m → News h₀ L h ((C, oC) :: (e, oe) :: (it, io) :: led') → (∀ q ∈ led, q ∈ led') → (((C, oC) :: (e, oe) :: (it, io) :: led').map (·.1)).Nodup →
      wpAny (model P w) A (eval elt (compEnvC scope cl C env)) (fun y s₁ => Fy i y ∧ ∃ h' tk', s₁ = { s with heap := h', toks := tk' } ∧ Fr h₀ L h' m ∧ News h₀ L h' ((C, oC) :: (e, oe) :: (it, io) :: led')) E' { s with heap := h, toks := tk })
    (fin : ∀ D ys ep h' tk', @LE.le Nat instLENat (bnd led) D → Fr h₀ L h' m → News h₀ L h' ((D, W.listOf ys ep) :: led) → (((D, W.listOf ys ep) :: led).map (·.1)).Nodup → Paired Fy ((List.range vs.length).filter p) ys.toList → Q (.ref D) { s with heap := h', toks := tk' }) :
    wpAny (model P w) A (pyIter (.ref e)) (fun it s₂ => CompAt P w A h₀ L env scope cl elt (.Tuple [.Name x px, .Name y py] k tp) ifs Q it s₂) E s := by
  refine wpAny_pyIter_enum (N _ (.head _)).1 ?_
  have hei : e ≠ it := fun q => by rw [List.map_cons, List.nodup_cons] at hnd; exact hnd.1 (by rw [show e = it from q]; exact .head _)
  refine ⟨_, vs.length, m, [(e, enumObj it 0 .none), (it, io₀)], led, p, Fy, rfl, hsz, F, N, hnd, fun C hC => ?_, fun D ys ep' h' tk' hD F' N'' hn' hp => ?_⟩
  · refine ⟨fun i own => ∃ old io, own = [(e, enumObj it i old), (it, io)] ∧ IsIt io l i, fun i mC own => ∃ old io v tu, own = [(e, enumObj it ((i + 1 : Nat) : Int) old), (it, io)] ∧ vs[i]? = some v ∧ mC x = some (.int i tu) ∧ mC y = some v ∧ IsIt io l (i + 1), ?_, ?_⟩
    · rw [hco]; exact ⟨_, _, rfl, hio⟩
    · rw [hcf]
      refine ⟨?_, ?_, ?_, ?_, ?_, ?_⟩
      · intro i oC mC own led' h tk E' hi hZ13 hC' F₁ N₁ hsub nd₁
        refine sealG fun GR13 hGR13 => ?_
        obtain ⟨old, io, rfl, hit⟩ := hZ13
        refine hGR13 ?_
        obtain ⟨v, hv⟩ : ∃ v, vs[i]? = some v := ⟨_, List.getElem?_eq_getElem hi⟩
        have nd' := nd₁
        simp only [List.cons_append, List.nil_append, List.map_cons, List.nodup_cons, List.mem_cons, not_or] at nd'
        have ze := N₁ (e, enumObj it i old) (.tail _ (.head _))
        have zi := N₁ (it, io) (.tail _ (.tail _ (.head _)))
        refine wpAny_pyNext_enum_item ze.1 (hit.at zi.1) (news_list N₁ (.tail _ (.tail _ (.tail _ (hsub _ hl))))) (x := v) (by simpa using hv) hei fun h₂ hen hit₂ htup hsz2 hk2 => ?_
        refine ⟨_, rfl, ?_⟩
        refine wpAny_letOwnedTupleGo_enum hen fun h₃ hen3 hs3 => ?_
        have htne : (h.objs.size : Addr) ≠ e := Ne.symm (Nat.ne_of_lt (Heap.lt_size ze.1))
        obtain ⟨io', hio', hit3⟩ := hit₂
        have fr2 : Fr h₀ L h₂ m := ⟨F₁.ns.at' fun o q => hk2 L o (Ne.symm ze.2.1) (Ne.symm zi.2.1) q, fun b o q => hk2 b o (fun e1 => by rw [e1, ze.2.2] at q; cases q) (fun e1 => by rw [e1, zi.2.2] at q; cases q) (F₁.keep b o q), F₁.above⟩
        have fr3 : Fr h₀ L h₃ m := fr2.change hs3 ze.2.1 ze.2.2
        have N₃ : News h₀ L h₃ ((C, oC) :: ([(e, enumObj it ((i : Int) + 1) v), (it, io')] ++ led')) := fun q hq => by
          have far : ∀ q ∈ (C, oC) :: ([(e, enumObj it i old), (it, io)] ++ led'), q.1 ≠ e → q.1 ≠ it → h₃.get? q.1 = some q.2 ∧ q.1 ≠ L ∧ h₀.get? q.1 = none := fun q hq n1 n2 =>
            ⟨(hs3.2 _ n1).trans (hk2 _ _ n1 n2 (N₁ q hq).1), (N₁ q hq).2⟩
          rcases List.mem_cons.mp hq with rfl | hq
          · exact far _ (.head _) nd'.1.1 nd'.1.2.1
          · rcases List.mem_cons.mp hq with rfl | hq
            · exact ⟨hen3, ze.2⟩
            · rcases List.mem_cons.mp hq with rfl | hq
              · exact ⟨(hs3.2 _ (Ne.symm hei)).trans hio', zi.2⟩
              · refine far q (.tail _ (.tail _ (.tail _ hq))) (fun e1 => nd'.2.1.2 (by rw [← e1]; exact List.mem_map_of_mem hq)) (fun e1 => nd'.2.2.1 (by rw [← e1]; exact List.mem_map_of_mem hq))
        refine store_own2 (rest := (e, enumObj it ((i : Int) + 1) v) :: (it, io') :: led') hh fr3 N₃ nd₁ hC' hk hx hy hxy ⟨_, (hs3.2 _ htne).trans htup, rfl, _, rfl⟩ fun h₄ tk₄ oC' mC' hC₄ e1 e2 F₄ N₄ => ?_
        exact ⟨h₄, tk₄, oC', mC', [(e, enumObj it ((i : Int) + 1) v), (it, io')], rfl, hC₄, ⟨v, io', v, _, rfl, hv, e1, e2, hit3⟩, rfl, F₄, N₄⟩
      · intro oC mC own led' h tk E' hZ14 hC' F₁ N₁ hsub nd₁
        refine sealG fun GR14 hGR14 => ?_
        obtain ⟨old, io, rfl, hit⟩ := hZ14
        refine hGR14 ?_
        have ze := N₁ (e, enumObj it vs.length old) (.tail _ (.head _))
        have zi := N₁ (it, io) (.tail _ (.tail _ (.head _)))
        have nd' := nd₁
        simp only [List.cons_append, List.nil_append, List.map_cons, List.nodup_cons, List.mem_cons, not_or] at nd'
        refine wpAny_pyNext_enum_end hh ze.1 (hit.at zi.1) (news_list N₁ (.tail _ (.tail _ (.tail _ (hsub _ hl))))) (by simp) fun h₂ he2 => ?_
        refine ⟨rfl, h₂, tk, rfl, LCg.fr_but F₁ (fun b o hb q => he2 b o (by simpa using hb) q) (Ne.symm zi.2.1) zi.2.2, fun q hq => ?_⟩
        rcases List.mem_cons.mp hq with rfl | hq
        · exact ⟨he2 _ _ nd'.1.2.1 (N₁ _ (.head _)).1, (N₁ _ (.head _)).2⟩
        · have z := N₁ q (.tail _ (.tail _ (.tail _ hq)))
          exact ⟨he2 _ _ (fun e1 => nd'.2.2.1 (by rw [← e1]; exact List.mem_map_of_mem hq)) z.1, z.2⟩
      · intro i oC mC own led' h tk E' hi hZ15 hC' F₁ N₁ hsub nd₁
        refine sealG fun GR15 hGR15 => ?_
        obtain ⟨old, io, v, tu, rfl, hv, e1, e2, hit⟩ := hZ15
        refine hGR15 ?_
        exact tests C i v tu oC mC _ io led' h tk E' hv e1 e2 hC' F₁ N₁ hsub nd₁
      · intro i oC mC own led' h tk E' hi hpi hZ16 hC' F₁ N₁ hsub nd₁
        refine sealG fun GR16 hGR16 => ?_
        obtain ⟨old, io, v, tu, rfl, hv, e1, e2, hit⟩ := hZ16
        refine hGR16 ?_
        exact elts C i v tu oC mC _ io led' h tk E' hv hpi e1 e2 hC' F₁ N₁ hsub nd₁
      · intro i mC own hZ17
        refine sealG fun GR17 hGR17 => ?_
        obtain ⟨old, io, v, tu, rfl, hv, e1, e2, hit⟩ := hZ17
        refine hGR17 ?_
        exact ⟨old, io, rfl, hit⟩
      · intro own h tk E' hZ18 N₁
        refine sealG fun GR18 hGR18 => ?_
        obtain ⟨old, io, rfl, hit⟩ := hZ18
        refine hGR18 ?_
        exact wpAny_pyIter_enum (N₁ _ (.head _)).1 ⟨rfl, rfl⟩
  · exact fin D ys ep' h' tk' (Nat.le_trans (bnd_news fun q hq => N q (.tail _ (.tail _ hq))) hD) F' N'' hn' hp
theorem enumerate_led {items : Array Value} {n : Nat} {Q : Value → Shared → Prop} (F : Fr h₀ L s.heap m) (N : News h₀ L s.heap led) (hnd : (led.map (·.1)).Nodup) (hl : (l, W.listOf items n) ∈ led)
    (h : ∀ (it : Addr) io h', IsIt io l 0 → Fr h₀ L h' m → News h₀ L h' ((it + 1, enumObj it 0 .none) :: (it, io) :: led) → (((it + 1, enumObj it 0 .none) :: (it, io) :: led).map (·.1)).Nodup → Q (.ref (it + 1)) { s with heap := h' }) :
    wpAny (model P w) A (call (.type "enumerate") [.ref l]) Q E s := by
  refine call_enumerate_1 (N _ hl).1 fun h' he hit hsz hk => ?_
  obtain ⟨io, hio, hi⟩ := hit
  have hLlt : @LT.lt Nat instLTNat L s.heap.objs.size := F.ns.lt
  have fresh₀ : ∀ a, @LE.le Nat instLENat s.heap.objs.size a → h₀.get? a = none := fun a ha => by
    cases e : h₀.get? a with
    | none => rfl
    | some o => exact absurd (Heap.lt_size (F.keep a o e)) (Nat.not_lt.mpr ha)
  refine h s.heap.objs.size io h' hi (F.keeps hk) (fun q hq => ?_) ?_
  · rcases List.mem_cons.mp hq with rfl | hq
    · exact ⟨he, Nat.ne_of_gt (Nat.lt_succ_of_lt hLlt), fresh₀ _ (Nat.le_succ _)⟩
    · rcases List.mem_cons.mp hq with rfl | hq
      · exact ⟨hio, Nat.ne_of_gt hLlt, fresh₀ _ (Nat.le_refl _)⟩
      · exact (N.grown hk) q hq
  · have hb := bnd_news N
    refine nodup_cons_of (p := (s.heap.objs.size + 1, enumObj s.heap.objs.size 0 .none)) (nodup_cons_of (p := (s.heap.objs.size, io)) hnd hb) ?_
    rw [bnd_cons]
    show Nat.max (s.heap.objs.size + 1) (bnd led) ≤ s.heap.objs.size + 1
    exact Nat.max_le.mpr ⟨Nat.le_refl _, Nat.le_succ_of_le hb⟩
end

end
section
open PySem PySem.W PyProof.Rows PySem.Spec
noncomputable def nth (l : List Str) (i : Nat) : Str := l.getD i (Str.ofString "")
theorem nth_of {l : List Str} {i : Nat} {x : Str} (h : l[i]? = some x) : nth l i = x := by unfold nth; rw [List.getD_eq_getElem?_getD, h]; rfl
theorem nth_get {l : List Str} {i : Nat} (h : i < l.length) : l[i]? = some (nth l i) := by
  rw [List.getElem?_eq_getElem h, nth_of (List.getElem?_eq_getElem h)]
theorem paired_nth {l : List Str} : ∀ {is : List Nat} {ys : List Value}, Paired (fun i v => ∃ t, v = .str (nth l i) t) is ys → StrsAre ys (is.map (nth l))
  | [], _, .nil => .nil
  | i :: is, _ :: ys, .cons ⟨t, e⟩ h => by subst e; exact .cons _ _ (paired_nth h)
theorem range_filter_nth (q : Str → Bool) : ∀ l : List Str, ((List.range l.length).filter fun i => q (nth l i)).map (nth l) = l.filter q := by
  intro l
  have key : ∀ n, n ≤ l.length → ((List.range n).filter fun i => q (nth l i)).map (nth l) = (l.take n).filter q := by
    intro n
    induction n with
    | zero => intro _; simp
    | succ n ih =>
      intro hn
      have hg := nth_get (l := l) (i := n) (by omega)
      rw [range_filter_succ, List.map_append, ih (by omega), List.take_add_one, hg, List.filter_append]
      congr 1
      by_cases c : q (nth l n) = true
      · simp [c]
      · simp [c]
  have := key l.length (Nat.le_refl _)
  rwa [List.take_length] at this
theorem range_filter_firsts (l : List Str) : ∀ n, n ≤ l.length → ((List.range n).filter fun i => !decide (nth l i ∈ l.take i)).map (nth l) = firstsTo l n := by
  intro n
  induction n with
  | zero => intro _; rfl
  | succ n ih =>
    intro hn
    have hg := nth_get (l := l) (i := n) (by omega)
    rw [range_filter_succ, List.map_append, ih (by omega), firstsTo_succ hg]
    congr 1
    by_cases c : nth l n ∈ l.take n
    · simp [c]
    · simp [c]
theorem pick_to (l : List Value) (j : Nat) (hj : j ≤ l.length) : kms_pick l none (some (j : Int)) = l.take j := by
  unfold kms_pick kms_lo kms_hi
  dsimp only
  rw [if_neg (by omega), show min ((j : Int).toNat) l.length = j by omega, List.drop_zero, Nat.sub_zero]
theorem nodup_one {h₀ h : Heap} {L a : Addr} {o : Obj} (_ : News h₀ L h [(a, o)]) : (([(a, o)] : List (Addr × Obj)).map (·.1)).Nodup := by simp
theorem nodup_grow {h₀ h : Heap} {L D : Addr} {o : Obj} {l : List (Addr × Obj)} (_ : News h₀ L h ((D, o) :: l)) (hn : (l.map (·.1)).Nodup) (hb : ∀ p ∈ l, p.1 < D) : (((D, o) :: l).map (·.1)).Nodup := nodup_cons_of hn (bnd_le (allLt_of hb))
theorem figs_ok {ns nfix : List Int} (h : nfix = [376, 27, 177, 21, 1226, 4, 1096, 63, 14, 2272]) : (((ns.take 63).map (Int.fmod · 1000000) ++ nfix).take 10).length ≤ 10 ∧ ∀ f ∈ ((ns.take 63).map (Int.fmod · 1000000) ++ nfix).take 10, 0 ≤ f ∧ f < 1000000 := by
  refine ⟨by rw [List.length_take]; omega, fun f hf => ?_⟩
  rcases List.mem_append.mp (List.mem_of_mem_take hf) with h1 | h1
  · obtain ⟨x, _, rfl⟩ := List.mem_map.mp h1
    rw [Int.fmod_eq_emod_of_nonneg x (by decide)]
    exact ⟨Int.emod_nonneg x (by decide), Int.emod_lt_of_pos x (by decide)⟩
  · subst h
    simp only [List.mem_cons, List.not_mem_nil, or_false] at h1
    rcases h1 with rfl | rfl | rfl | rfl | rfl | rfl | rfl | rfl | rfl | rfl <;> decide
theorem pick_upto (l : List Value) (j : Nat) : kms_pick l none (some (j : Int)) = l.take j := by
  unfold kms_pick kms_lo kms_hi
  dsimp only
  rw [if_neg (by omega), List.drop_zero, Nat.sub_zero, Int.toNat_natCast]
  by_cases h : j ≤ l.length
  · rw [Nat.min_eq_left h]
  · rw [Nat.min_eq_right (by omega), List.take_of_length_le (Nat.le_refl _), List.take_of_length_le (by omega)]
theorem ints_take {vs : List Value} {ns : List Int} (h : IntsAre vs ns) : ∀ j, IntsAre (vs.take j) (ns.take j) := by
  induction h with
  | nil => intro j; simp; exact .nil
  | cons k t r ih =>
    intro j
    cases j with
    | zero => exact .nil
    | succ j => exact .cons k t (ih j)
theorem ints_get {vs : List Value} {ns : List Int} (h : IntsAre vs ns) : ∀ {i : Nat} {v : Value}, vs[i]? = some v → ∃ n t, ns[i]? = some n ∧ v = .int n t := by
  induction h with
  | nil => intro i v e; simp at e
  | cons k t _ ih =>
    intro i v e
    cases i with
    | zero => simp at e; exact ⟨k, t, rfl, e.symm⟩
    | succ i => simp at e; simpa using ih e
theorem paired_fmod {vs : List Value} {ns : List Int} (h : IntsAre vs ns) : ∀ {ys : List Value}, Paired (fun v y => ∃ n t t', v = .int n t ∧ y = .int (Int.fmod n 1000000) t') vs ys → IntsAre ys (ns.map (Int.fmod · 1000000)) := by
  induction h with
  | nil => intro ys hp; cases hp; exact .nil
  | cons k t _ ih =>
    intro ys hp
    cases hp with
    | cons h1 h2 =>
      obtain ⟨n, u, u', e1, e2⟩ := h1
      cases e1; subst e2
      exact .cons _ _ (ih h2)
theorem ints_len {vs : List Value} {ns : List Int} (h : IntsAre vs ns) : vs.length = ns.length := by
  induction h with
  | nil => rfl
  | cons _ _ _ ih => simp [ih]
theorem ints_append {vs us : List Value} {ns ms : List Int} (h : IntsAre vs ns) (h' : IntsAre us ms) : IntsAre (vs ++ us) (ns ++ ms) := by
  induction h with
  | nil => exact h'
  | cons k t _ ih => exact .cons k t ih
noncomputable def rowIn (needs : Needs) (left : List Str) (x : Str) (k : Nat) : Bool := match needs[k]? with
  | some p => p.1 == x && decide (p.2 ∈ left)
  | none => false
theorem rowIn_of {needs : Needs} {left : List Str} {x u v : Str} {k : Nat} (h : needs[k]? = some (u, v)) : rowIn needs left x k = (u == x && decide (v ∈ left)) := by unfold rowIn; rw [h]
theorem paired_ones : ∀ {is : List Nat} {ys : List Value}, Paired (fun _ v => ∃ t, v = .int 1 t) is ys → IntsAre ys (is.map fun _ => 1)
  | [], _, .nil => .nil
  | i :: is, _ :: ys, .cons ⟨t, e⟩ h => by subst e; exact .cons _ _ (paired_ones h)
theorem filter_later {needs : Needs} {names left : List Str} : names.filter (fun x => decide (x ∈ later needs names left)) = later needs names left := by
  conv => rhs; unfold later
  refine List.filter_congr fun x hx => ?_
  have h1 : x ∈ later needs names left ↔ decide ((needs.filter fun p => p.1 = x ∧ p.2 ∈ left) ≠ []) = true := by
    unfold later; rw [List.mem_filter]; exact ⟨fun h => h.2, fun h => ⟨hx, h⟩⟩
  by_cases c : x ∈ later needs names left
  · rw [decide_eq_true c]; exact (h1.mp c).symm
  · rw [decide_eq_false c]
    cases q : decide ((needs.filter fun p => p.1 = x ∧ p.2 ∈ left) ≠ []) with
    | true => exact absurd (h1.mpr q) c
    | false => rfl
theorem filter_gone {needs : Needs} {names left : List Str} : left.filter (fun z => !decide (z ∈ later needs names left)) = gone needs names left := by
  unfold gone
  refine List.filter_congr fun x _ => ?_
  by_cases c : x ∈ later needs names left
  · simp [c]
  · simp [c]
theorem comp_newsA {h₀ h h4 : Heap} {L D : Addr} {m m4 : Str → Option Value} {led : List (Addr × Obj)} {ys : Array Value} {it : Obj} (F : Fr h₀ L h m) (N : News h₀ L h led) (hnd : (led.map (·.1)).Nodup) (hD : (h.push it).get? D = none) (hpl : h4.PlainList D ys) (hn : h4.Ns L m4) (up : ∀ b o, b ≠ L → h.get? b = some o → h4.get? b = some o) :
    ∃ ep, Fr h₀ L h4 m4 ∧ News h₀ L h4 ((D, W.listOf ys ep) :: led) ∧ (((D, W.listOf ys ep) :: led).map (·.1)).Nodup ∧ (∀ p ∈ led, p.1 ≠ D) := by
  obtain ⟨ep, hD4⟩ := hpl
  have hDn : h.get? D = none := by
    cases hq : h.get? D with
    | none => rfl
    | some o => have := Heap.get?_push_of_some it hq; rw [hD] at this; cases this
  have hne : ∀ b o, h.get? b = some o → b ≠ D := fun b o e q => by rw [q, hDn] at e; cases e
  have hfar : ∀ p ∈ led, p.1 ≠ D := fun p hp => hne _ _ (N p hp).1
  have hLD : L ≠ D := by obtain ⟨oL, _, _, hL, _⟩ := F.ns; exact hne _ _ hL
  refine ⟨ep, ⟨hn, fun b o e => up b o (fun q => by
    have := Heap.lt_size e
    rw [q] at this
    exact absurd this (Nat.not_lt.mpr F.above)) (F.keep b o e), F.above⟩, fun p hp => ?_, ?_, hfar⟩
  · rcases List.mem_cons.mp hp with rfl | hp
    · refine ⟨hD4, fun q => hLD q.symm, ?_⟩
      cases hq : h₀.get? D with
      | none => rfl
      | some o => exact absurd rfl (hne _ _ (F.keep _ _ hq))
    · have z := N p hp
      exact ⟨up _ _ z.2.1 z.1, z.2⟩
  · rw [List.map_cons, List.nodup_cons]
    exact ⟨fun hm => by obtain ⟨p, hp, e⟩ := List.mem_map.mp hm; exact hfar p hp e, hnd⟩
theorem ne_cell {led : List (Addr × Obj)} {a c : Addr} {items : Array Value} {ep : Nat} {oc : Obj} {v : Option Value} (hn : (led.map (·.1)).Nodup) (h : (a, W.listOf items ep) ∈ led) (h' : (c, oc) ∈ led) (hd : oc.data = .cell v) : @Ne Nat a c := fun e => by
  have e' : a = c := e
  subst e'
  have := ledger_inj hn h h'
  rw [← this] at hd
  cases hd
theorem rows_ne {needs : Needs} {names left : List Str} {x : Str} (hx : x ∈ names) : (!decide ((((List.range needs.length).filter (rowIn needs left x)).map fun _ => (1 : Int)) = [])) = decide (x ∈ later needs names left) := by
  by_cases h : x ∈ later needs names left
  · obtain ⟨_, y, h1, h2⟩ := mem_later.mp h
    obtain ⟨k, hk, e⟩ := List.getElem_of_mem h1
    have hm : k ∈ (List.range needs.length).filter (rowIn needs left x) := by
      rw [List.mem_filter]
      exact ⟨List.mem_range.mpr hk, by rw [rowIn_of (by rw [List.getElem?_eq_getElem hk, e])]; simp [h2]⟩
    rw [decide_eq_true h, decide_eq_false (fun c => by
      rw [List.map_eq_nil_iff] at c
      rw [c] at hm; cases hm)]
    rfl
  · rw [decide_eq_false h, decide_eq_true]
    · rfl
    · rw [List.map_eq_nil_iff, List.filter_eq_nil_iff]
      intro k hk c
      unfold rowIn at c
      cases hn : needs[k]? with
      | none => rw [hn] at c; cases c
      | some p =>
        rw [hn] at c
        simp only [Bool.and_eq_true, beq_iff_eq, decide_eq_true_eq] at c
        exact h (mem_later.mpr ⟨hx, p.2, by rw [← c.1]; exact List.mem_of_getElem? hn, c.2⟩)

end
section
open PySem PySem.W PyProof.Rows PySem.Spec PySem.Calls PySem.SeqAt
set_option maxRecDepth 100000
theorem all_strs {xs ys : List Value} {as bs : List Str} (hx : StrsAre xs as) (hy : StrsAre ys bs) (hl : as.length = bs.length) : (List.range xs.toArray.size).all (fun j => as.getD j (Str.ofString "") == bs.getD j (Str.ofString "")) = decide (as = bs) := by
  rw [List.size_toArray]
  have hxl : xs.length = as.length := by
    clear hy hl; induction hx with
    | nil => rfl
    | cons z u _ ih => simp [ih]
  rw [hxl]
  by_cases h : as = bs
  · subst h; rw [decide_eq_true rfl, List.all_eq_true]; intro j _; simp
  · rw [decide_eq_false h]
    rw [Bool.eq_false_iff]
    intro hc
    rw [List.all_eq_true] at hc
    apply h
    apply List.ext_getElem hl
    intro j h1 h2
    have := hc j (List.mem_range.mpr h1)
    simp [List.getD_eq_getElem?_getD, h1, h2] at this
    exact this
section
variable {P : Program} {w : World} {A : Around} {E : Value → Shared → Prop} {s : Shared} {h₀ : Heap} {L a b : Addr} {news : List (Addr × Obj)} {e1 e2 : Nat} {xs ys : List Value} {as bs : List Str} {Q : Value → Shared → Prop}
theorem strs_getE {vs : List Value} {zs : List Str} (h : StrsAre vs zs) : ∀ j (h1 : j < vs.toArray.size), ∃ t, vs.toArray[j] = .str (zs.getD j (Str.ofString "")) t := by
  induction h with
  | nil => intro j h1; simp at h1
  | cons z u _ ih =>
    intro j h1
    cases j with
    | zero => exact ⟨u, rfl⟩
    | succ j =>
      obtain ⟨t, e⟩ := ih j (by simpa using h1)
      exact ⟨t, by simpa using e⟩
theorem items_strs (hx : StrsAre xs as) (hy : StrsAre ys bs) (j : Nat) (h1 : j < xs.toArray.size) (h2 : j < ys.toArray.size) : EqAt A s xs.toArray[j] ys.toArray[j] (as.getD j (Str.ofString "") == bs.getD j (Str.ofString "")) := by
  obtain ⟨t, e⟩ := strs_getE hx j h1
  obtain ⟨t', e'⟩ := strs_getE hy j h2
  rw [e, e']
  exact EqAt.str_str _ _ _ _
theorem eq_strs (hu : A.units < cLine) (N : News h₀ L s.heap news) (ha : (a, W.listOf xs.toArray e1) ∈ news) (hb : (b, W.listOf ys.toArray e2) ∈ news) (hx : StrsAre xs as) (hy : StrsAre ys bs) (hQ : Q (.bool (decide (as = bs))) s) : wpAny (model P w) A (compareOp .Eq (.ref a) (.ref b)) Q E s := by
  have hxl := strs_len hx
  have hyl := strs_len hy
  by_cases hl : as.length = bs.length
  · refine eq_listAt (News.isList N ha) (News.isList N hb) (by simp [hxl, hyl, hl]) hu (items_strs hx hy) ?_
    rw [all_strs hx hy hl]; exact hQ
  · refine eq_list_lengthsAt (News.isList N ha) (News.isList N hb) (by simp [hxl, hyl, hl]) hu ?_
    rw [decide_eq_false (fun e => hl (by rw [e]))] at hQ; exact hQ
theorem ne_strs (hu : A.units < cLine) (N : News h₀ L s.heap news) (ha : (a, W.listOf xs.toArray e1) ∈ news) (hb : (b, W.listOf ys.toArray e2) ∈ news) (hx : StrsAre xs as) (hy : StrsAre ys bs) (hQ : Q (.bool (!decide (as = bs))) s) : wpAny (model P w) A (compareOp .NotEq (.ref a) (.ref b)) Q E s := by
  have hxl := strs_len hx
  have hyl := strs_len hy
  by_cases hl : as.length = bs.length
  · refine RcNeAt.lists (e := fun j => as.getD j (Str.ofString "") == bs.getD j (Str.ofString "")) (News.isList N ha) (News.isList N hb) (by simp [hxl, hyl, hl]) hu (items_strs hx hy) P w E Q ?_
    rw [all_strs hx hy hl]; exact hQ
  · refine RcNeAt.lists_lengths (News.isList N ha) (News.isList N hb) (by simp [hxl, hyl, hl]) hu P w E Q ?_
    rw [decide_eq_false (fun e => hl (by rw [e]))] at hQ; exact hQ
theorem ne_tups {x1 x2 y1 y2 : Str} {t1 t2 u1 u2 : Tok} {n n' : Nat} (hu : A.units < cLine) (N : News h₀ L s.heap news) (ha : (a, ({ cls := .type "tuple", data := .seq #[.str x1 t1, .str x2 t2] n } : Obj)) ∈ news) (hb : (b, ({ cls := .type "tuple", data := .seq #[.str y1 u1, .str y2 u2] n' } : Obj)) ∈ news) (hQ : Q (.bool (!(x1 == y1 && x2 == y2))) s) : wpAny (model P w) A (compareOp .NotEq (.ref a) (.ref b)) Q E s := by
  have := RcNeAt.tuples (A := A) (s := s) (e := fun j => if j = 0 then x1 == y1 else x2 == y2) (items := #[.str x1 t1, .str x2 t2]) (items2 := #[.str y1 u1, .str y2 u2]) ⟨_, (N _ ha).1, rfl, _, rfl⟩ ⟨_, (N _ hb).1, rfl, _, rfl⟩ hu (fun j h1 h2 => by
      match j, h1 with
      | 0, _ => exact EqAt.str_str x1 t1 y1 u1
      | 1, _ => exact EqAt.str_str x2 t2 y2 u2
      | k + 2, h1 => simp at h1; omega) P w E Q
  refine this ?_
  have e2 : ((List.range (min (#[Value.str x1 t1, .str x2 t2] : Array Value).size (#[Value.str y1 u1, .str y2 u2] : Array Value).size)).all (fun j => if j = 0 then x1 == y1 else x2 == y2) && (#[Value.str x1 t1, .str x2 t2] : Array Value).size == (#[Value.str y1 u1, .str y2 u2] : Array Value).size) = (x1 == y1 && x2 == y2) := by
    simp [List.range, List.range.loop]
  rw [e2]; exact hQ
end
inductive RoundsAre (ok : Addr → Prop) (led : List (Addr × Obj)) : List Value → List (List Str) → Prop
  | nil : RoundsAre ok led [] []
  | snoc {a : Addr} {vs : List Value} {zs g : List Str} {ep : Nat} {r : List Value} {gs : List (List Str)} : RoundsAre ok led r gs → ok a → (a, W.listOf vs.toArray ep) ∈ led → StrsAre vs zs → sortedS zs = true → zs.Perm g → RoundsAre ok led (r ++ [.ref a]) (gs ++ [g])
theorem RoundsAre.mono {ok : Addr → Prop} {led led' : List (Addr × Obj)} {vs : List Value} {gs : List (List Str)} (h : RoundsAre ok led vs gs) (hs : ∀ a us ep, ok a → (a, W.listOf us ep) ∈ led → (a, W.listOf us ep) ∈ led') : RoundsAre ok led' vs gs := by
  induction h with
  | nil => exact .nil
  | snoc _ h1 h2 h3 h4 h5 ih => exact .snoc ih h1 (hs _ _ _ h1 h2) h3 h4 h5
theorem RoundsAre.len {ok : Addr → Prop} {led : List (Addr × Obj)} {vs : List Value} {gs : List (List Str)} (h : RoundsAre ok led vs gs) : vs.length = gs.length := by
  induction h with
  | nil => rfl
  | snoc _ _ _ _ _ _ ih => simp [ih]
theorem RoundsAre.get {ok : Addr → Prop} {led : List (Addr × Obj)} {vs : List Value} {gs : List (List Str)} (h : RoundsAre ok led vs gs) : ∀ {i : Nat} {v : Value}, vs[i]? = some v → ∃ a us zs g ep, v = .ref a ∧ gs[i]? = some g ∧ ok a ∧ (a, W.listOf us ep) ∈ led ∧ StrsAre us.toList zs ∧ sortedS zs = true ∧ zs.Perm g := by
  induction h with
  | nil => intro i v e; simp at e
  | @snoc a vs zs g ep r gs hr h1 h2 h3 h4 h5 ih =>
    intro i v e
    have hl := hr.len
    rcases Nat.lt_trichotomy i r.length with q | q | q
    · rw [List.getElem?_append_left q] at e
      obtain ⟨a', us, zs', g', ep', e1, e2, r1⟩ := ih e
      exact ⟨a', us, zs', g', ep', e1, by rw [List.getElem?_append_left (by omega)]; exact e2, r1⟩
    · subst q
      simp at e
      exact ⟨a, vs.toArray, zs, g, ep, e.symm, by rw [hl]; simp, h1, h2, h3, h4, h5⟩
    · rw [List.getElem?_eq_none (by simp; omega)] at e; cases e
theorem RoundsAre.objs {ok : Addr → Prop} {led : List (Addr × Obj)} {vs : List Value} {gs : List (List Str)} (h : RoundsAre ok led vs gs) : ∃ robs : List (Addr × Obj), (∀ p ∈ robs, p ∈ led ∧ ok p.1) ∧ RoundsAre ok robs vs gs := by
  induction h with
  | nil => exact ⟨[], fun p hp => (nomatch hp), .nil⟩
  | @snoc a vs zs g ep r gs hr h1 h2 h3 h4 h5 ih =>
    obtain ⟨robs, q1, q2⟩ := ih
    refine ⟨(a, W.listOf vs.toArray ep) :: robs, fun p hp => ?_, .snoc (q2.mono fun a us ep _ hm => .tail _ hm) h1 (.head _) h3 h4 h5⟩
    rcases List.mem_cons.mp hp with rfl | hp
    · exact ⟨h2, h1⟩
    · exact q1 p hp

end
section
open PySem
theorem ne_up {a b x : Nat} (h : @LE.le Nat instLENat b x) (h2 : @LT.lt Nat instLTNat a b) : @Ne Nat x a := Nat.ne_of_gt (Nat.lt_of_lt_of_le h2 h)
structure RInv (needs : Needs) (names left : List Str) (dn : List (List Str)) (i : Nat) : Prop where
  eq : roundsFrom needs names names.length names = (dn ++ (roundsFrom needs names (names.length - i) left).1, (roundsFrom needs names (names.length - i) left).2)
  len : dn.length = i
  sub : left.length ≤ names.length
section
variable {needs : Needs} {names left : List Str} {dn : List (List Str)} {i : Nat}
theorem RInv.start : RInv needs names names [] 0 := ⟨by simp, rfl, Nat.le_refl _⟩
theorem RInv.step (h : RInv needs names left dn i) (hi : i < names.length) (hg : gone needs names left ≠ []) : RInv needs names (later needs names left) (dn ++ [gone needs names left]) (i + 1) := by
  refine ⟨?_, by rw [List.length_append, h.len]; rfl, List.length_filter_le _ _⟩
  rw [h.eq, show names.length - i = (names.length - (i + 1)) + 1 by omega]
  conv => lhs; unfold roundsFrom
  rw [if_neg hg]
  simp
theorem RInv.brk (h : RInv needs names left dn i) (hg : gone needs names left = []) : roundsFrom needs names names.length names = (dn, left) := by
  rw [h.eq]
  cases names.length - i with
  | zero => simp [roundsFrom]
  | succ n => unfold roundsFrom; rw [if_pos hg]; simp
theorem RInv.done (h : RInv needs names left dn names.length) : roundsFrom needs names names.length names = (dn, left) := by
  rw [h.eq, Nat.sub_self]; simp [roundsFrom]
end

end
section
theorem offG13 : True := by
  w_top off
  trivial
open PySem PySem.W PyProof.Rows
set_option maxRecDepth 100000
set_option maxHeartbeats 8000000
section
variable {w : World} {s₀ : Shared} {mg mb : Str → Option Value} {dp un : Nat} {gd : Option (List Code)} {cn : Str} {cs : Scope} {a : Addr} {ccd : Value} {cl : List (Str × Addr)} {outer : List Env} {A₀ : Around} {base h₀ : Heap} {L : Addr} {m : Str → Option Value} {news : List (Addr × Obj)} {s : Shared} {Q E : Value → Shared → Prop}
set_option pp.maxSteps 4000 in
theorem roundsB (B : Below A₀ base outer h₀) (F : Fr h₀ L s.heap m) (X : (hd.heap_1 w.params).In h₀) (N : News h₀ L s.heap news) (T : Top hd.view_1 (looseW hd.view_1 [Str.ofString "_NodeInfo"]) (ExcName.means s₀.heap) mg mb h₀) (hk : cs.kind = .function) (hnd : (news.map (·.1)).Nodup)
    {nl : Addr} {ws : List Value} {needs : Needs} {epn : Nat}
    (hl : (nl, W.listOf ws.toArray epn) ∈ news) (hws : NeedsAre news ws needs) (hnl : needs.length ≤ 10) (hd : dp + 60 < recursionLimit) (hu : un + 100 < cLine)
    (ret : ∀ h' tk' T rl ll vl epl left vr epr dn led', Fr h₀ L h' m → News h₀ L h' led' → (led'.map (·.1)).Nodup → (∀ p ∈ news, p ∈ led') → (T, ({ cls := .type "tuple", data := .seq #[.ref rl, .ref ll] } : Obj)) ∈ led' → @LE.le Nat instLENat (bnd news) T → (rl, W.listOf (List.toArray vr) epr) ∈ led' → @LE.le Nat instLENat (bnd news) rl →
      (ll, W.listOf (List.toArray vl) epl) ∈ led' → @LE.le Nat instLENat (bnd news) ll → StrsAre vl left → RoundsAre (fun a => @Ne Nat a rl ∧ @LE.le Nat instLENat (bnd news) a) led' vr dn → roundsFrom needs (firstsTo (gathered needs) (gathered needs).length) (firstsTo (gathered needs) (gathered needs).length).length (firstsTo (gathered needs) (gathered needs).length) = (dn, left) → Q (.ref T) { s with heap := h', toks := tk' })
    : wpAny (model (PySem.Challenge.rw_mr0291_01.row.prog) w) (ktrTop dp un gd cn cs L a ccd cl outer) (call (.ref 167) [.ref nl]) Q E s := by
  revert X; k_fill; intro X
  refine wpAny_call ?_
  k_dflt (refine' code_defC (binds := [(Str.ofString "needs", .ref nl)]) ?k1 ?k2 ?k3 ?k4 ?k5 ?kA ?kF ?kK ?k6 ?k7 ?k8 ?k9 ?kB ?kn ?_ ?c2 ?c3 ?c4; (case kA => exact rfl); (case kF => exact rfl); (case kK => assumption); (case k1 => k_asm); (case k2 => k_asm); (case k3 => k_asm); (case k4 => k_asm); (case k5 => k_asm); (case k6 => k_is); (case k7 => k_is); (case k8 => ktr_room); (case k9 => exact BindsTo.of_eq rfl); (case kB => exact rfl); (case kn => decide); (case c2 => exact rfl); (case c3 => exact rfl); (case c4 => exact rfl); k_whole; intro g' L' h' tk' cells FG' F' N' Y B' X' T' l1)
  k_cells Y
  dsimp only [List.cons_append, List.nil_append] at N'
  k_lt l1
  try dsimp only
  try k_fold
  repeat' ((fail_if_success (with_reducible show wpAny _ _ (exec (Stmt.For _ _ _ _ _) _) _ _ _)); (first | (k_unfold; (try dsimp only)) | (k_end; wrow_close) | walk1 | (dsimp only; walk1) | (leave1; try dsimp only)))
  rename_i oc4 oc3 oc2x oc1 dc4 dc3 dc2x dc1 lst h1 b1 h2 oc2 F2 N2 dc2
  replace dc1 : oc1.data = Data.cell (some (Value.ref nl)) := dc1
  replace dc3 : oc3.data = Data.cell none := dc3
  replace dc4 : oc4.data = Data.cell none := dc4
  generalize hm0 : bindL _ _ _ = m0 at F2
  refine for_led g' rfl rfl ?_
  repeat' ((fail_if_success (with_reducible show wpAny _ _ (pyIter _) _ _ _)); (first | (k_unfold; (try dsimp only)) | (k_end; wrow_close) | ((with_reducible show wpAny _ _ (exec _ _) _ _ { heap := _, gens := _, drawn := _, toks := _ + 1, os := _ }); refine genT ?_; intro __tkT) | walk1 | (dsimp only; walk1) | (leave1; try dsimp only)))
  refine sealG fun GG1 hGG1 => ?_
  obtain ⟨bs, hbs⟩ : ∃ l, l = (((L' + 1 + 1 + 1 + 1 : Nat), oc4) :: ((L' + 1 + 1 + 1 : Nat), oc3) :: ((L' + 1 + 1 : Nat), oc2) :: ((L' + 1 : Nat), oc1) :: news) := ⟨_, rfl⟩
  refine hGG1 ?_
  rw [← hbs] at N2
  have hbl : bnd bs ≤ lst := by
    rw [hbs]; simp only [bnd_cons, adr]
    (repeat' (with_reducible refine Nat.max_le.mpr ⟨?_, ?_⟩)) <;> omega
  have hndb : (bs.map (·.1)).Nodup := by
    rw [hbs]
    refine nodup_cons_of (nodup_cons_of (nodup_cons_of (nodup_cons_of hnd ?_) ?_) ?_) ?_
    all_goals (simp only [bnd_cons, adr]; (repeat' (with_reducible refine Nat.max_le.mpr ⟨?_, ?_⟩)) <;> omega)
  have hnb : ∀ p ∈ news, p ∈ bs := fun p hp => by rw [hbs]; exact .tail _ (.tail _ (.tail _ (.tail _ hp)))
  have hc1 : ((L' + 1 : Nat), oc1) ∈ bs := by rw [hbs]; exact .tail _ (.tail _ (.tail _ (.head _)))
  have hc2 : ((L' + 1 + 1 : Nat), oc2) ∈ bs := by rw [hbs]; exact .tail _ (.tail _ (.head _))
  let JJ1 : Nat → (Str → Option Value) → List (Addr × Obj) → Prop := fun i m₁ led₁ => SameBut1 (Str.ofString "need") m₁ m0 ∧ ∃ vs ep, StrsAre vs (gathered (needs.take i)) ∧ (lst, W.listOf vs.toArray ep) ∈ led₁ ∧ ∀ p ∈ bs, p ∈ led₁
  k_dflt refine forAt_list rfl (by k_asm) (by k_asm) (nodup_cons_of (p := (lst, W.listOf #[] 0)) hndb hbl) (.tail _ (hnb _ hl)) JJ1 ⟨SameBut1.refl _ _, [], 0, .nil, .head _, fun p hp => .tail _ hp⟩ ?turn ?done
  case turn =>
    intro I i v m₁ led₁ h tk io hv hJ hnl1 F3 N3 hnd3
    refine sealG fun GG2 hGG2 => ?_
    obtain ⟨hm₁, vs, ep, hvs, hlst, hsb⟩ := hJ
    rw [map_set hm₁] at F3
    obtain ⟨a3, x3, y3, t3, u3, n3, rfl, hnd4, ha3⟩ := hws.get (by simpa using hv)
    refine hGG2 ?_
    have ha3' : (a3, ({ cls := .type "tuple", data := .seq #[.str x3 t3, .str y3 u3] n3 } : Obj)) ∈ (I, io) :: led₁ := .tail _ (hsb _ (hnb _ ha3))
    have hc1' : ((L' + 1 : Nat), oc1) ∈ (I, io) :: led₁ := .tail _ (hsb _ hc1)
    have hc2' : ((L' + 1 + 1 : Nat), oc2) ∈ (I, io) :: led₁ := .tail _ (hsb _ hc2)
    have hlst' : (lst, W.listOf vs.toArray ep) ∈ (I, io) :: led₁ := .tail _ hlst
    repeat' ((fail_if_success (with_reducible show wpAny _ _ (eval (Expr.ListComp _ _ _ _) _) _ _ _)); (first | (k_unfold; (try dsimp only)) | (k_end; wrow_close) | ((with_reducible show wpAny _ _ (exec _ _) _ _ { heap := _, gens := _, drawn := _, toks := _ + 1, os := _ }); refine genT ?_; intro __tkT) | walk1 | (dsimp only; walk1) | (leave1; try dsimp only)))
    k_dflt (refine wpAny_ListComp_free (cl := [(Str.ofString "names", L' + 1 + 1)]) (notInS (gathered (needs.take i))) (fun v y => v = y) (by with_unfolding_all rfl) (by decide) rfl (by decide) rfl ?_)
    repeat' ((fail_if_success (with_reducible show wpAny _ _ (pyIter _) _ _ _)); (first | (k_unfold; (try dsimp only)) | (k_end; wrow_close) | ((with_reducible show wpAny _ _ (exec _ _) _ _ { heap := _, gens := _, drawn := _, toks := _ + 1, os := _ }); refine genT ?_; intro __tkT) | walk1 | (dsimp only; walk1) | (leave1; try dsimp only)))
    k_dflt (refine wpAny_pyIter_tuple (items := #[.str x3 t3, .str y3 u3]) ⟨_, (N3 _ ha3').1, rfl, _, rfl⟩ ?_)
    have hlta := Heap.lt_size (N3 _ ha3').1
    refine ⟨_, _, _, _, _, _, rfl, Walks.tuple rfl _ a3 (Nat.ne_of_lt hlta) #[.str x3 t3, .str y3 u3], by rw [sizeLine_eq]; exact Nat.le_of_ble_eq_true rfl, ⟨⟨_, Heap.get?_push_size _ rfl, rfl, rfl⟩, ⟨_, Heap.get?_push_of_some _ (N3 _ ha3').1, rfl, _, rfl⟩⟩, ?small, ⟨?tests, ?elt⟩, ?fin⟩
    case small =>
      intro b hb
      rcases List.mem_cons.mp hb with rfl | hb
      · show _ < (h.push _).objs.size
        rw [Heap.size_push]; exact Nat.lt_succ_self _
      · show _ < (h.push _).objs.size
        rw [Heap.size_push, List.mem_singleton.mp hb]; exact Nat.lt_succ_of_lt hlta
    case tests =>
      intro C j v s₃ m₃ E' hC hP hns hmx hkp htk
      have up : ∀ b o, h.get? b = some o → s₃.heap.get? b = some o := fun b o e => hkp b o (fun hm => Nat.lt_irrefl _ (by have := Heap.lt_size e; rw [List.mem_singleton.mp hm] at this; exact this)) (Heap.get?_push_of_some _ e)
      have F4 := F3.keeps up
      have N4 := N3.grown up
      refine sealG fun GG3 hGG3 => ?_
      obtain ⟨hp3, g3, d3, tk3, os3⟩ := s₃
      clear hkp up
      obtain ⟨z, tz, rfl⟩ : ∃ z tz, v = .str z tz := pair_strs hP
      refine hGG3 ?_
      rw [List.forIn_cons]
      simp only [if_true]
      refine wpAny_bind (wpAny_bind ?_)
      repeat' ((fail_if_success (with_reducible show wpAny _ _ (compareOp CmpOp.NotIn _ _) _ _ _)); (first | (k_unfold; (try dsimp only)) | (k_end; wrow_close) | ((with_reducible show wpAny _ _ (exec _ _) _ _ { heap := _, gens := _, drawn := _, toks := _ + 1, os := _ }); refine genT ?_; intro __tkT) | walk1 | (dsimp only; walk1) | (leave1; try dsimp only)))
      k_dflt (refine notin_strs N4 hlst' hvs ?_)
      repeat' ((first | (k_unfold; (try dsimp only)) | (k_end; wrow_close) | ((with_reducible show wpAny _ _ (exec _ _) _ _ { heap := _, gens := _, drawn := _, toks := _ + 1, os := _ }); refine genT ?_; intro __tkT) | walk1 | (dsimp only; walk1) | (leave1; try dsimp only)))
      refine wpAny_pure ?_
      dsimp only
      rw [List.forIn_nil]
      exact wpAny_pure ⟨rfl, _, _, rfl, fun _ _ e => e⟩
    case elt =>
      intro C j v s₃ m₃ E' hC hP hpv hns hmx hkp htk
      have up : ∀ b o, h.get? b = some o → s₃.heap.get? b = some o := fun b o e => hkp b o (fun hm => Nat.lt_irrefl _ (by have := Heap.lt_size e; rw [List.mem_singleton.mp hm] at this; exact this)) (Heap.get?_push_of_some _ e)
      have F4 := F3.keeps up
      have N4 := N3.grown up
      refine sealG fun GG4 hGG4 => ?_
      obtain ⟨hp3, g3, d3, tk3, os3⟩ := s₃
      refine hGG4 ?_
      clear hkp up
      repeat' ((fail_if_success (with_reducible show _ ∧ _)); (first | (k_unfold; (try dsimp only)) | (k_end; wrow_close) | ((with_reducible show wpAny _ _ (exec _ _) _ _ { heap := _, gens := _, drawn := _, toks := _ + 1, os := _ }); refine genT ?_; intro __tkT) | walk1 | (dsimp only; walk1) | (leave1; try dsimp only)))
      exact ⟨rfl, _, _, rfl, fun _ _ e => e⟩
    case fin =>
      intro D h4 tk4 ys vs' hD hl4 hpl4 hvl hP hpair hkeep
      have up : ∀ b o, h.get? b = some o → h4.get? b = some o := fun b o e => hkeep b o (fun hm => Nat.lt_irrefl _ (by have := Heap.lt_size e; rw [List.mem_singleton.mp hm] at this; exact this)) (Heap.get?_push_of_some _ e)
      refine sealG fun GG5 hGG5 => ?_
      obtain rfl := list_of_items (items := #[.str x3 t3, .str y3 u3]) hvl hP
      have hys := paired_eq hpair
      obtain ⟨ep4, F4, N4, nd4, far4⟩ := comp_news F3 N3 hnd3 hD hpl4 up
      refine hGG5 ?_
      have hyss : StrsAre ys.toList ([x3, y3].filter fun z => !decide (z ∈ gathered (needs.take i))) := by
        rw [hys]; exact strs_filter (.cons _ _ (.cons _ _ .nil)) _
      clear hpair hP hvl hkeep hl4 up
      repeat' ((fail_if_success (with_reducible show wpAny _ _ (PySem.call (Value.builtin "list.extend") _ _) _ _ _)); (first | (k_unfold; (try dsimp only)) | (k_end; wrow_close) | ((with_reducible show wpAny _ _ (exec _ _) _ _ { heap := _, gens := _, drawn := _, toks := _ + 1, os := _ }); refine genT ?_; intro __tkT) | walk1 | (dsimp only; walk1) | (leave1; try dsimp only)))
      have hgl := gathered_len (needs.take i)
      have hlt2 : (needs.take i).length ≤ 10 := by rw [List.length_take]; omega
      have hyl : ys.toList.length ≤ 2 := by rw [strs_len hyss]; exact List.length_filter_le _ [x3, y3]
      k_dflt (refine extend_led (vs := ys.toList) F4 N4 nd4 (.head _) (.tail _ hlst') (by rw [strs_len hvs]; omega) ?_)
      intro h5 ep5 F5 N5
      repeat' ((first | (k_unfold; (try dsimp only)) | (k_end; wrow_close) | ((with_reducible show wpAny _ _ (exec _ _) _ _ { heap := _, gens := _, drawn := _, toks := _ + 1, os := _ }); refine genT ?_; intro __tkT) | walk1 | (dsimp only; walk1) | (leave1; try dsimp only)))
      have hIl : I ≠ lst := neI hnd3 hlst
      exact TurnEnd.go F5 (Mine.News.sub N5 fun p hp => by
        rcases List.mem_cons.mp hp with rfl | hp
        · exact mem_putA_ne (.tail _ (.head _)) hIl
        · exact putA_mono (fun q hq => .tail _ (.tail _ hq)) p hp) (nodupI_putA hnd3) (fun p hp => by rw [List.mem_singleton.mp hp]; exact mem_putA_ne hnl1 (bnd_ne hbl _ (hnb _ hl)))
        ⟨SameBut1.set, vs ++ ys.toList, ep5, by rw [gathered_take hnd4]; exact strs_append hvs hyss, mem_putA_self hlst, fun p hp => mem_putA_ne (b := p.1) (x := p.2) (hsb p hp) (bnd_ne hbl p hp)⟩
  case done =>
    intro h4 tk4 m4 led4 F4 N4 hnd4 hnl4 hJ
    refine sealG fun GG6 hGG6 => ?_
    obtain ⟨hm4, vs4, ep4, hvs4, hlst4, hsb4⟩ := hJ
    refine hGG6 ?_
    replace F4 := fr_same F4 hm4
    rw [List.size_toArray, hws.len, List.take_length] at hvs4
    have hc1' := hsb4 _ hc1
    have hc2' := hsb4 _ hc2
    repeat' ((fail_if_success (with_reducible show wpAny _ _ (exec (Stmt.Assign _ (Expr.ListComp _ _ _ _) _) _) _ _ _)); (first | (k_unfold; (try dsimp only)) | (k_end; wrow_close) | ((with_reducible show wpAny _ _ (exec _ _) _ _ { heap := _, gens := _, drawn := _, toks := _ + 1, os := _ }); refine genT ?_; intro __tkT) | walk1 | (dsimp only; walk1) | (leave1; try dsimp only)))
    refine wpAny_Assign_Name ?_ (by with_unfolding_all rfl)
    k_dflt (refine comp_led g' L' (cl := [(Str.ofString "names", L' + 1 + 1)]) (by with_unfolding_all rfl) rfl (by decide) ?_)
    repeat' ((fail_if_success (with_reducible show wpAny _ _ (PySem.call (Value.type "enumerate") _ _) _ _ _)); (first | (k_unfold; (try dsimp only)) | (k_end; wrow_close) | ((with_reducible show wpAny _ _ (exec _ _) _ _ { heap := _, gens := _, drawn := _, toks := _ + 1, os := _ }); refine genT ?_; intro __tkT) | walk1 | (dsimp only; walk1) | (leave1; try dsimp only)))
    show wpAny _ _ (PySem.call (Value.type "enumerate") [Value.ref lst]) _ _ _
    k_dflt (refine enumerate_led F4 N4 hnd4 hlst4 ?_)
    intro ite ioe h5 hioe F5 N5 hnd5
    have hgl := gathered_len needs
    have hvl4 := strs_len hvs4
    k_dflt (refine compAt_enum (vs := vs4) (ep := ep4) hioe rfl F5 N5 hnd5 hlst4 (by rw [sizeLine_eq]; omega) (by intro n; rfl) (by intro n; rfl) rfl rfl rfl (by decide) (fun i => !decide (nth (gathered needs) i ∈ (gathered needs).take i)) (fun i v => ∃ t, v = .str (nth (gathered needs) i) t) ?tests ?elts ?fin)
    case tests =>
      intro C i v tu oC mC oe io led' h6 tk6 E' hvi hmx hmy hC F6 N6 hsub nd6
      refine sealG fun GG7 hGG7 => ?_
      obtain ⟨x6, tx6, hxi, rfl⟩ := strs_get hvs4 hvi
      have hlst6 : (lst, W.listOf vs4.toArray ep4) ∈ (C, oC) :: (ite + 1, oe) :: (ite, io) :: led' := .tail _ (.tail _ (.tail _ (hsub _ hlst4)))
      have hc2'' : ((L' + 1 + 1 : Nat), oc2) ∈ (C, oC) :: (ite + 1, oe) :: (ite, io) :: led' := .tail _ (.tail _ (.tail _ (hsub _ hc2')))
      have hmC : (C, oC) ∈ (C, oC) :: (ite + 1, oe) :: (ite, io) :: led' := .head _
      obtain ⟨led6, hled6⟩ : ∃ l, l = (C, oC) :: (ite + 1, oe) :: (ite, io) :: led' := ⟨_, rfl⟩
      refine hGG7 ?_
      rw [← hled6] at N6 nd6 hlst6 hc2'' hmC ⊢
      rw [List.forIn_cons]
      simp only [if_true]
      refine wpAny_bind (wpAny_bind ?_)
      repeat' ((fail_if_success (with_reducible show wpAny _ _ (subscriptTail _ _ _ _) _ _ _)); (first | (k_unfold; (try dsimp only)) | (k_end; wrow_close) | ((with_reducible show wpAny _ _ (exec _ _) _ _ { heap := _, gens := _, drawn := _, toks := _ + 1, os := _ }); refine genT ?_; intro __tkT) | walk1 | (dsimp only; walk1) | (leave1; try dsimp only)))
      have hi6 : i < vs4.length := (List.getElem?_eq_some_iff.mp hvi).1
      k_dflt (refine kms_slice_lit (by k_asm) N6 (News.isList N6 hlst6) (by kmk_part) (by kmk_part) (zs := vs4.take i) (pick_to vs4 i (by omega)) ?_ (by with_unfolding_all rfl) (by kmk_pure) (by rw [sizeLine_eq, List.size_toArray]; omega))
      intro D6 h7 F7 N7 l7
      repeat' ((fail_if_success (with_reducible show wpAny _ _ (compareOp CmpOp.NotIn _ _) _ _ _)); (first | (k_unfold; (try dsimp only)) | (k_end; wrow_close) | ((with_reducible show wpAny _ _ (exec _ _) _ _ { heap := _, gens := _, drawn := _, toks := _ + 1, os := _ }); refine genT ?_; intro __tkT) | walk1 | (dsimp only; walk1) | (leave1; try dsimp only)))
      k_dflt (refine notin_strs N7 (.head _) (strs_take hvs4 i) ?_)
      repeat' ((first | (k_unfold; (try dsimp only)) | (k_end; wrow_close) | ((with_reducible show wpAny _ _ (exec _ _) _ _ { heap := _, gens := _, drawn := _, toks := _ + 1, os := _ }); refine genT ?_; intro __tkT) | walk1 | (dsimp only; walk1) | (leave1; try dsimp only)))
      refine wpAny_pure ?_
      dsimp only
      rw [List.forIn_nil]
      refine wpAny_pure ⟨?_, _, _, rfl, F7, fun q hq => N7 q (.tail _ hq)⟩
      rw [nth_of hxi]
    case elts =>
      intro C i v tu oC mC oe io led' h6 tk6 E' hvi hpi hmx hmy hC F6 N6 hsub nd6
      refine sealG fun GG8 hGG8 => ?_
      obtain ⟨x6, tx6, hxi, rfl⟩ := strs_get hvs4 hvi
      have hmC : (C, oC) ∈ (C, oC) :: (ite + 1, oe) :: (ite, io) :: led' := .head _
      obtain ⟨led6, hled6⟩ : ∃ l, l = (C, oC) :: (ite + 1, oe) :: (ite, io) :: led' := ⟨_, rfl⟩
      refine hGG8 ?_
      rw [← hled6] at N6 nd6 hmC ⊢
      repeat' ((fail_if_success (with_reducible show _ ∧ _)); (first | (k_unfold; (try dsimp only)) | (k_end; wrow_close) | ((with_reducible show wpAny _ _ (exec _ _) _ _ { heap := _, gens := _, drawn := _, toks := _ + 1, os := _ }); refine genT ?_; intro __tkT) | walk1 | (dsimp only; walk1) | (leave1; try dsimp only)))
      exact ⟨⟨_, by rw [nth_of hxi]⟩, _, _, rfl, F6, N6⟩
    case fin =>
      intro D5 ys5 ep5 h6 tk6 b5 F6 N6 nd6 hp6
      have hys5 := paired_nth hp6
      have hp6len : ys5.toList.length ≤ 20 := by
        have h1 := hp6.length
        have h2 := List.length_filter_le (fun i => !decide (nth (gathered needs) i ∈ (gathered needs).take i)) (List.range vs4.length)
        rw [List.length_range] at h2
        omega
      rw [hvl4, range_filter_firsts _ _ (Nat.le_refl _)] at hys5
      clear hp6 F5 N5 hnd5
      refine sealG fun GG9 hGG9 => ?_
      obtain ⟨us5, rfl⟩ : ∃ us : List Value, ys5 = us.toArray := ⟨ys5.toList, by simp⟩
      replace hp6len : us5.length ≤ 20 := hp6len
      replace hys5 : StrsAre us5 (firstsTo (gathered needs) (gathered needs).length) := hys5
      obtain ⟨led5, hled5⟩ : ∃ l, l = (D5, W.listOf us5.toArray ep5) :: led4 := ⟨_, rfl⟩
      refine hGG9 ?_
      rw [← hled5] at N6 nd6
      have hD5 : (D5, W.listOf us5.toArray ep5) ∈ led5 := by rw [hled5]; exact .head _
      have hup5 : ∀ p ∈ led4, p ∈ led5 := fun p hp => by rw [hled5]; exact .tail _ hp
      have hc1'' := hup5 _ hc1'
      have hc2'' := hup5 _ hc2'
      have hc3 : ((L' + 1 + 1 + 1 : Nat), oc3) ∈ led5 := hup5 _ (hsb4 _ (by rw [hbs]; exact .tail _ (.head _)))
      have hc4 : ((L' + 1 + 1 + 1 + 1 : Nat), oc4) ∈ led5 := hup5 _ (hsb4 _ (by rw [hbs]; exact .head _))
      have hnl5 := hup5 _ hnl4
      have hb3 := mem_lt hc3
      have hb4 := mem_lt hc4
      have hbD5 := mem_lt hD5
      repeat' ((fail_if_success (with_reducible show wpAny _ _ (exec (Stmt.For _ _ _ _ _) _) _ _ _)); (first | (k_unfold; (try dsimp only)) | (k_end; wrow_close) | ((with_reducible show wpAny _ _ (exec _ _) _ _ { heap := _, gens := _, drawn := _, toks := _ + 1, os := _ }); refine genT ?_; intro __tkT) | walk1 | (dsimp only; walk1) | (leave1; try dsimp only)))
      refine for_led g' rfl rfl ?_
      repeat' ((fail_if_success (with_reducible show wpAny _ _ (PySem.call (Value.builtin "len") _ _) _ _ _)); (first | (k_unfold; (try dsimp only)) | (k_end; wrow_close) | walk1 | (dsimp only; walk1) | (leave1; try dsimp only)))
      rename_i h7 oc2n d2n tk7 rl h8 l8 h9 h10 oc3n F10 N10 d3n
      refine sealG fun GG10 hGG10 => ?_
      obtain ⟨names, hnames⟩ : ∃ l, l = firstsTo (gathered needs) (gathered needs).length := ⟨_, rfl⟩
      rw [← hnames] at hys5
      have hnmlen : names.length ≤ 20 := by
        have h1 := strs_len hys5
        have h2 := hp6len
        omega
      obtain ⟨led6, hled6⟩ : ∃ l, l = (rl, W.listOf #[] 0) :: putA (L' + 1 + 1 + 1) oc3n (putA (L' + 1 + 1) oc2n led5) := ⟨_, rfl⟩
      have nd10 : (led6.map (·.1)).Nodup := by
        rw [hled6]; exact nodup_cons_of (nodup_putA (nodup_putA nd6)) (by rw [bnd_putA, bnd_putA]; exact l8)
      rw [← hled6] at N10
      have far6 : ∀ p ∈ led5, p.1 ≠ (L' + 1 + 1 + 1 : Nat) → p.1 ≠ (L' + 1 + 1 : Nat) → p ∈ led6 := fun p hp n1 n2 => by
        rw [hled6]; exact .tail _ (mem_putA_ne (b := p.1) (x := p.2) (mem_putA_ne hp n2) n1)
      have hne23 : @Ne Nat (L' + 1 + 1) (L' + 1 + 1 + 1) := by omega
      have k2 : ((L' + 1 + 1 : Nat), oc2n) ∈ led6 := by rw [hled6]; exact .tail _ (mem_putA_ne (mem_putA_self hc2'') hne23)
      have k3 : ((L' + 1 + 1 + 1 : Nat), oc3n) ∈ led6 := by rw [hled6]; exact .tail _ (mem_putA_self (mem_putA_ne hc3 (Ne.symm hne23)))
      have hb1 := mem_lt hl
      have kn : ∀ p ∈ news, p ∈ led6 := fun p hp => far6 p (hup5 _ (hsb4 _ (hnb _ hp))) (by have h1 : @LT.lt Nat instLTNat p.1 (bnd news) := lt_bnd hp; show @Ne Nat p.1 _; omega) (by have h1 : @LT.lt Nat instLTNat p.1 (bnd news) := lt_bnd hp; show @Ne Nat p.1 _; omega)
      have k1 : ((L' + 1 : Nat), oc1) ∈ led6 := far6 _ hc1'' (by show @Ne Nat (L' + 1) _; omega) (by show @Ne Nat (L' + 1) _; omega)
      have k4 : ((L' + 1 + 1 + 1 + 1 : Nat), oc4) ∈ led6 := far6 _ hc4 (by show @Ne Nat (L' + 1 + 1 + 1 + 1) _; omega) (by show @Ne Nat (L' + 1 + 1 + 1 + 1) _; omega)
      have hb44 := mem_lt (hsb4 _ (by rw [hbs]; exact .head _) : ((L' + 1 + 1 + 1 + 1 : Nat), oc4) ∈ led4)
      have k5 : (D5, W.listOf us5.toArray ep5) ∈ led6 := far6 _ hD5 (by show @Ne Nat D5 _; omega) (by show @Ne Nat D5 _; omega)
      have krl : (rl, W.listOf #[] 0) ∈ led6 := by rw [hled6]; exact .head _
      obtain ⟨KL, hKL⟩ : ∃ l, l = ((L' + 1 + 1 : Nat), oc2n) :: ((L' + 1 : Nat), oc1) :: (D5, W.listOf us5.toArray ep5) :: news := ⟨_, rfl⟩
      have hKoff : ∀ p ∈ KL, @Ne Nat p.1 (L' + 1 + 1 + 1) ∧ @Ne Nat p.1 (L' + 1 + 1 + 1 + 1) ∧ @Ne Nat p.1 rl := fun p hp => by
        rw [hKL] at hp
        rcases List.mem_cons.mp hp with rfl | hp
        · refine ⟨?_, ?_, ?_⟩ <;> (show @Ne Nat (L' + 1 + 1) _; omega)
        · rcases List.mem_cons.mp hp with rfl | hp
          · refine ⟨?_, ?_, ?_⟩ <;> (show @Ne Nat (L' + 1) _; omega)
          · rcases List.mem_cons.mp hp with rfl | hp
            · refine ⟨?_, ?_, ?_⟩ <;> (show @Ne Nat D5 _; omega)
            · have h1 : @LT.lt Nat instLTNat p.1 (bnd news) := lt_bnd hp
              refine ⟨?_, ?_, ?_⟩ <;> omega
      have hK6 : ∀ p ∈ KL, p ∈ led6 := fun p hp => by
        rw [hKL] at hp
        rcases List.mem_cons.mp hp with rfl | hp
        · exact k2
        · rcases List.mem_cons.mp hp with rfl | hp
          · exact k1
          · rcases List.mem_cons.mp hp with rfl | hp
            · exact k5
            · exact kn p hp
      have hKn : ∀ p ∈ news, p ∈ KL := fun p hp => by rw [hKL]; exact .tail _ (.tail _ (.tail _ hp))
      have hK1 : ((L' + 1 : Nat), oc1) ∈ KL := by rw [hKL]; exact .tail _ (.head _)
      have hK2 : ((L' + 1 + 1 : Nat), oc2n) ∈ KL := by rw [hKL]; exact .head _
      have hK5 : (D5, W.listOf us5.toArray ep5) ∈ KL := by rw [hKL]; exact .tail _ (.tail _ (.head _))
      have hrlD : @Ne Nat D5 rl := by omega
      obtain ⟨OK, hOKd⟩ : ∃ f : Addr → Prop, f = fun a => @Ne Nat a rl ∧ @LE.le Nat instLENat (bnd news) a := ⟨_, rfl⟩
      refine hGG10 ?_
      have hOK : ∀ {a : Addr}, @Ne Nat a rl → @LE.le Nat instLENat (bnd news) a → OK a := fun h1 h2 => by rw [hOKd]; exact ⟨h1, h2⟩
      have hrl4 : @Ne Nat (L' + 1 + 1 + 1 + 1) rl := by omega
      have hrl3 : @Ne Nat (L' + 1 + 1 + 1) rl := by omega
      k_dflt (refine kst_len N10 k5 (strs_len hys5) (by omega) ?_)
      repeat' ((fail_if_success (with_reducible show wpAny _ _ (PySem.call (Value.type "range") _ _) _ _ _)); (first | (k_unfold; (try dsimp only)) | (k_end; wrow_close) | ((with_reducible show wpAny _ _ (exec _ _) _ _ { heap := _, gens := _, drawn := _, toks := _ + 1, os := _ }); refine genT ?_; intro __tkT) | walk1 | (dsimp only; walk1) | (leave1; try dsimp only)))
      k_dflt (refine call_range_1 ?_)
      repeat' ((fail_if_success (with_reducible show wpAny _ _ (pyIter _) _ _ _)); (first | (k_unfold; (try dsimp only)) | (k_end; wrow_close) | ((with_reducible show wpAny _ _ (exec _ _) _ _ { heap := _, gens := _, drawn := _, toks := _ + 1, os := _ }); refine genT ?_; intro __tkT) | walk1 | (dsimp only; walk1) | (leave1; try dsimp only)))
      have hro := range_one names.length 0 (by decide) (by omega)
      rw [Int.zero_add] at hro
      let JJ2 : Nat → (Str → Option Value) → List (Addr × Obj) → Prop := fun i m₁ led₁ => SameL [Str.ofString "turn", Str.ofString "gone"] m₁ (fun y => if y = Str.ofString "rounds" then some (Value.ref rl) else if y = Str.ofString "need" then m4 (Str.ofString "need") else m0 y) ∧ ∃ ocl ocr cv ll vl epl left vr epr dn, ((L' + 1 + 1 + 1 : Nat), ocl) ∈ led₁ ∧ ocl.data = Data.cell (some (.ref ll)) ∧ ((L' + 1 + 1 + 1 + 1 : Nat), ocr) ∈ led₁ ∧ ocr.data = Data.cell cv ∧ (ll, W.listOf vl.toArray epl) ∈ led₁ ∧ StrsAre vl left ∧ OK ll ∧ (rl, W.listOf vr.toArray epr) ∈ led₁ ∧ RoundsAre OK led₁ vr dn ∧ RInv needs names left dn i ∧ ∀ p ∈ KL, p ∈ led₁
      k_dflt refine forAt_range (n := names.length) rfl (F10.push _) (N10.grown fun b o e => Heap.get?_push_of_some _ e) nd10 (IsRange.new _ _ _ _ _ _ _) (by omega) hro.1 hro.2 JJ2
        ⟨SameL.refl _ _, oc3n, oc4, none, D5, us5, ep5, names, [], 0, [], k3, d3n, k4, dc4, k5, hys5, hOK hrlD (by show bnd news ≤ _; omega), krl, .nil, RInv.start, hK6⟩ ?turn ?done
      case turn =>
        intro I i t' m₁ led₁ h11 tk11 io hi hJ F11 N11 nd11
        refine sealG fun GG11 hGG11 => ?_
        obtain ⟨hm₁, ocl, ocr, cv, ll, vl, epl, left, vr, epr, dn, g1, g2, g3, g4, g5, g6, g7, g8, g9, g10, g11⟩ := hJ
        replace F11 := fr_sameL1 F11 hm₁
        simp only [canon, List.foldr] at F11
        obtain ⟨lt, hlt⟩ : ∃ l, l = (I, io) :: led₁ := ⟨_, rfl⟩
        refine hGG11 ?_
        rw [← hlt] at N11 nd11
        have upt : ∀ p ∈ led₁, p ∈ lt := fun p hp => by rw [hlt]; exact .tail _ hp
        have g1' := upt _ g1
        have g3' := upt _ g3
        have g5' := upt _ g5
        have g8' := upt _ g8
        have u1 := upt _ (g11 _ hK1)
        have u2 := upt _ (g11 _ hK2)
        have u5 := upt _ (g11 _ hK5)
        have unl := upt _ (g11 _ (hKn _ hl))
        have hwst : NeedsAre lt ws needs := hws.mono fun _ _ a o _ hm => upt _ (g11 _ (hKn _ hm))
        repeat' ((fail_if_success (with_reducible show wpAny _ _ (exec (Stmt.Assign _ (Expr.ListComp _ _ _ _) _) _) _ _ _)); (first | (k_unfold; (try dsimp only)) | (k_end; wrow_close) | ((with_reducible show wpAny _ _ (exec _ _) _ _ { heap := _, gens := _, drawn := _, toks := _ + 1, os := _ }); refine genT ?_; intro __tkT) | walk1 | (dsimp only; walk1) | (leave1; try dsimp only)))
        refine wpAny_Assign_Name ?_ (by with_unfolding_all rfl)
        k_dflt (refine comp_led g' L' (cl := [(Str.ofString "needs", L' + 1), (Str.ofString "left", L' + 1 + 1 + 1)]) (by with_unfolding_all rfl) rfl (by decide) ?_)
        repeat' ((fail_if_success (with_reducible show wpAny _ _ (pyIter _) _ _ _)); (first | (k_unfold; (try dsimp only)) | (k_end; wrow_close) | ((with_reducible show wpAny _ _ (exec _ _) _ _ { heap := _, gens := _, drawn := _, toks := _ + 1, os := _ }); refine genT ?_; intro __tkT) | walk1 | (dsimp only; walk1) | (leave1; try dsimp only)))
        show wpAny _ _ (pyIter (.ref D5)) _ _ _
        k_dflt (refine compAt_cell (x := Str.ofString "name") (vs := us5) (ep := ep5) rfl F11 N11 nd11 u5 (by rw [sizeLine_eq]; omega) (by intro n; rfl) (by intro n; rfl) rfl (by intro C; rfl) (fun k => decide (nth names k ∈ later needs names left)) (fun k v => ∃ t, v = .str (nth names k) t) ?tests ?elts ?fin)
        case tests =>
          intro C I2 j v oC mC oc io2 led' h12 tk12 E' hv hdc hC F12 N12 hsub nd12
          refine sealG fun GG12 hGG12 => ?_
          obtain ⟨xj, txj, hxj, rfl⟩ := strs_get hys5 hv
          obtain ⟨lc, hlc⟩ : ∃ l, l = (C, oC) :: (C + 1, oc) :: (I2, io2) :: led' := ⟨_, rfl⟩
          refine hGG12 ?_
          rw [← hlc] at N12 nd12 ⊢
          have upc : ∀ p ∈ lt, p ∈ lc := fun p hp => by rw [hlc]; exact .tail _ (.tail _ (.tail _ (hsub p hp)))
          have c0 : (C, oC) ∈ lc := by rw [hlc]; exact .head _
          have c1 : (C + 1, oc) ∈ lc := by rw [hlc]; exact .tail _ (.head _)
          have v1 := upc _ u1
          have w1 := upc _ g1'
          have w5 := upc _ g5'
          have wnl := upc _ unl
          have hwsc : NeedsAre lc ws needs := hwst.mono fun _ _ a o _ hm => upc _ hm
          rw [List.forIn_cons]
          simp only [if_true]
          refine wpAny_bind (wpAny_bind ?_)
          repeat' ((fail_if_success (with_reducible show wpAny _ _ (eval (Expr.ListComp _ _ _ _) _) _ _ _)); (first | (k_unfold; (try dsimp only)) | (k_end; wrow_close) | ((with_reducible show wpAny _ _ (exec _ _) _ _ { heap := _, gens := _, drawn := _, toks := _ + 1, os := _ }); refine genT ?_; intro __tkT) | walk1 | (dsimp only; walk1) | (leave1; try dsimp only)))
          k_dflt (refine comp_led g' L' (cl := [(Str.ofString "name", C + 1), (Str.ofString "left", L' + 1 + 1 + 1)]) (by with_unfolding_all rfl) rfl (by decide) ?_)
          repeat' ((fail_if_success (with_reducible show wpAny _ _ (pyIter _) _ _ _)); (first | (k_unfold; (try dsimp only)) | (k_end; wrow_close) | ((with_reducible show wpAny _ _ (exec _ _) _ _ { heap := _, gens := _, drawn := _, toks := _ + 1, os := _ }); refine genT ?_; intro __tkT) | walk1 | (dsimp only; walk1) | (leave1; try dsimp only)))
          show wpAny _ _ (pyIter (.ref nl)) _ _ _
          k_dflt (refine compAt_pairs (vs := ws) (ep := epn) (needs := needs) rfl F12 N12 nd12 wnl hwsc (by rw [hws.len, sizeLine_eq]; omega) (by intro n; rfl) (by intro n; rfl) rfl rfl rfl (by decide) (rowIn needs left xj) (fun _ v => ∃ t, v = .int 1 t) ?tests2 ?elts2 ?fin2)
          case tests2 =>
            intro C2 I3 k u v tu tv oC2 mC2 io3 led2 h13 tk13 E2 hnk hmx hmy hC2 F13 N13 hsub2 nd13
            refine sealG fun GG13 hGG13 => ?_
            obtain ⟨ld, hld⟩ : ∃ l, l = (C2, oC2) :: (I3, io3) :: led2 := ⟨_, rfl⟩
            refine hGG13 ?_
            rw [← hld] at N13 nd13 ⊢
            have d0 : (C2, oC2) ∈ ld := by rw [hld]; exact .head _
            have upd : ∀ p ∈ lc, p ∈ ld := fun p hp => by rw [hld]; exact .tail _ (.tail _ (hsub2 p hp))
            have x1 := upd _ c1
            have x2 := upd _ w1
            have x5 := upd _ w5
            have hrow := rowIn_of (left := left) (x := xj) hnk
            rw [hrow]
            rw [List.forIn_cons]
            simp only [if_true]
            refine wpAny_bind (wpAny_bind ?_)
            repeat' ((fail_if_success (with_reducible show wpAny _ _ (compareOp CmpOp.In _ _) _ _ _)); (first | (k_unfold; (try dsimp only)) | (k_end; wrow_close) | ((with_reducible show wpAny _ _ (exec _ _) _ _ { heap := _, gens := _, drawn := _, toks := _ + 1, os := _ }); refine genT ?_; intro __tkT) | walk1 | (dsimp only; walk1) | (leave1; try dsimp only)))
            · rename (u == xj) = true => he
              k_dflt (refine in_strs N13 x5 g6 ?_)
              repeat' ((first | (k_unfold; (try dsimp only)) | (k_end; wrow_close) | ((with_reducible show wpAny _ _ (exec _ _) _ _ { heap := _, gens := _, drawn := _, toks := _ + 1, os := _ }); refine genT ?_; intro __tkT) | walk1 | (dsimp only; walk1) | (leave1; try dsimp only)))
              all_goals (refine wpAny_pure ?_; dsimp only; rw [List.forIn_nil]; exact wpAny_pure ⟨by first | (rw [he, decide_eq_true (by assumption)]; rfl) | (rw [he, decide_eq_false (by assumption)]; rfl), _, _, rfl, F13, N13⟩)
            · rename (u == xj) = false => he
              repeat' ((first | (k_unfold; (try dsimp only)) | (k_end; wrow_close) | ((with_reducible show wpAny _ _ (exec _ _) _ _ { heap := _, gens := _, drawn := _, toks := _ + 1, os := _ }); refine genT ?_; intro __tkT) | walk1 | (dsimp only; walk1) | (leave1; try dsimp only)))
              refine wpAny_pure ?_
              dsimp only
              rw [List.forIn_nil]
              exact wpAny_pure ⟨by rw [he]; rfl, _, _, rfl, F13, N13⟩
          case elts2 =>
            intro C2 I3 k u v tu tv oC2 mC2 io3 led2 h13 tk13 E2 hnk hpk hmx hmy hC2 F13 N13 hsub2 nd13
            repeat' ((fail_if_success (with_reducible show _ ∧ _)); (first | (k_unfold; (try dsimp only)) | (k_end; wrow_close) | ((with_reducible show wpAny _ _ (exec _ _) _ _ { heap := _, gens := _, drawn := _, toks := _ + 1, os := _ }); refine genT ?_; intro __tkT) | walk1 | (dsimp only; walk1) | (leave1; try dsimp only)))
            exact ⟨⟨_, rfl⟩, _, _, rfl, F13, N13⟩
          case fin2 =>
            intro D8 ys8 ep8 h13 tk13 b8 F13 N13 nd13 hp8
            have hones := paired_ones hp8
            refine sealG fun GG14 hGG14 => ?_
            obtain ⟨us8, rfl⟩ : ∃ us : List Value, ys8 = us.toArray := ⟨ys8.toList, by simp⟩
            refine hGG14 ?_
            replace hones : IntsAre us8 _ := hones
            clear hp8
            repeat' ((fail_if_success (with_reducible show wpAny _ _ (compareOp CmpOp.NotEq _ _) _ _ _)); (first | (k_unfold; (try dsimp only)) | (k_end; wrow_close) | ((with_reducible show wpAny _ _ (exec _ _) _ _ { heap := _, gens := _, drawn := _, toks := _ + 1, os := _ }); refine genT ?_; intro __tkT) | walk1 | (dsimp only; walk1) | (leave1; try dsimp only)))
            rename News g' L' _ ((_, W.listOf #[] 0) :: _) => N14
            rename Fr g' L' _ _ => F14
            k_dflt (refine ke_ne_ints (News.isList N14 (.tail _ (.head _))) (News.isList N14 (.head _)) hones .nil (by units_room) ?_)
            have hxn : xj ∈ names := List.mem_of_getElem? hxj
            rw [rows_ne hxn]
            repeat' ((first | (k_unfold; (try dsimp only)) | (k_end; wrow_close) | ((with_reducible show wpAny _ _ (exec _ _) _ _ { heap := _, gens := _, drawn := _, toks := _ + 1, os := _ }); refine genT ?_; intro __tkT) | walk1 | (dsimp only; walk1) | (leave1; try dsimp only)))
            all_goals (refine wpAny_pure ?_; dsimp only; rw [List.forIn_nil]; exact wpAny_pure ⟨by rw [nth_of hxj], _, _, rfl, F14, fun q hq => N14 q (.tail _ (.tail _ hq))⟩)
        case elts =>
          intro C I2 j v oC mC oc io2 led' h12 tk12 E' hv hpv hdc hC F12 N12 hsub nd12
          refine sealG fun GG15 hGG15 => ?_
          obtain ⟨xj, txj, hxj, rfl⟩ := strs_get hys5 hv
          obtain ⟨lc, hlc⟩ : ∃ l, l = (C, oC) :: (C + 1, oc) :: (I2, io2) :: led' := ⟨_, rfl⟩
          refine hGG15 ?_
          rw [← hlc] at N12 nd12 ⊢
          have c1 : (C + 1, oc) ∈ lc := by rw [hlc]; exact .tail _ (.head _)
          repeat' ((fail_if_success (with_reducible show _ ∧ _)); (first | (k_unfold; (try dsimp only)) | (k_end; wrow_close) | ((with_reducible show wpAny _ _ (exec _ _) _ _ { heap := _, gens := _, drawn := _, toks := _ + 1, os := _ }); refine genT ?_; intro __tkT) | walk1 | (dsimp only; walk1) | (leave1; try dsimp only)))
          exact ⟨⟨_, by rw [nth_of hxj]⟩, _, _, rfl, F12, N12⟩
        case fin =>
          intro D9 ys9 ep9 h14 tk14 b9 F14 N14 nd14 hp9
          have hys9 := paired_nth hp9
          rw [strs_len hys5, range_filter_nth (fun x => decide (x ∈ later needs names left))] at hys9
          refine sealG fun GG16 hGG16 => ?_
          obtain ⟨us9, rfl⟩ : ∃ us : List Value, ys9 = us.toArray := ⟨ys9.toList, by simp⟩
          replace hys9 : StrsAre us9 _ := hys9
          clear hp9
          rw [filter_later] at hys9
          obtain ⟨led9, hled9⟩ : ∃ l, l = (D9, W.listOf us9.toArray ep9) :: lt := ⟨_, rfl⟩
          refine hGG16 ?_
          rw [← hled9] at N14 nd14
          have up9 : ∀ p ∈ lt, p ∈ led9 := fun p hp => by rw [hled9]; exact .tail _ hp
          have y0 : (D9, W.listOf us9.toArray ep9) ∈ led9 := by rw [hled9]; exact .head _
          have y1 := up9 _ u1
          have y2 := up9 _ u2
          have y3 := up9 _ g1'
          have y4 := up9 _ g3'
          have y5 := up9 _ g5'
          have y8 := up9 _ g8'
          repeat' ((fail_if_success (with_reducible show wpAny _ _ (exec (Stmt.Assign _ (Expr.ListComp _ _ _ _) _) _) _ _ _)); (first | (k_unfold; (try dsimp only)) | (k_end; wrow_close) | ((with_reducible show wpAny _ _ (exec _ _) _ _ { heap := _, gens := _, drawn := _, toks := _ + 1, os := _ }); refine genT ?_; intro __tkT) | walk1 | (dsimp only; walk1) | (leave1; try dsimp only)))
          rename News g' L' _ (putA (L' + 1 + 1 + 1 + 1) _ led9) => N15
          rename Fr g' L' _ _ => F15
          rename Obj.data _ = Data.cell (some (Value.ref D9)) => d15
          rename_i h15 o15
          refine sealG fun GG17 hGG17 => ?_
          obtain ⟨led10, hled10⟩ : ∃ l, l = putA (L' + 1 + 1 + 1 + 1) o15 led9 := ⟨_, rfl⟩
          refine hGG17 ?_
          have nd15 : (led10.map (·.1)).Nodup := by rw [hled10]; exact nodup_putA nd14
          rw [← hled10] at N15
          have upp : ∀ p ∈ led9, @Ne Nat p.1 (L' + 1 + 1 + 1 + 1) → p ∈ led10 := fun p hp hn => by rw [hled10]; exact mem_putA_ne (b := p.1) (x := p.2) hp hn
          have z0 := upp _ y0 (ne_cell nd14 y0 y4 g4)
          have z1 := upp _ y1 (by show @Ne Nat (L' + 1) _; omega)
          have z2 := upp _ y2 (by show @Ne Nat (L' + 1 + 1) _; omega)
          have z3 := upp _ y3 (by show @Ne Nat (L' + 1 + 1 + 1) _; omega)
          have z4 : ((L' + 1 + 1 + 1 + 1 : Nat), o15) ∈ led10 := by rw [hled10]; exact mem_putA_self y4
          have z5 := upp _ y5 (ne_cell nd14 y5 y4 g4)
          have z8 := upp _ y8 (ne_cell nd14 y8 y4 g4)
          k_dflt (refine wpAny_Assign_ListComp_free (cl := [(Str.ofString "later", L' + 1 + 1 + 1 + 1)]) (notInS (later needs names left)) (fun v y => v = y) (by with_unfolding_all rfl) (by with_unfolding_all rfl) (by decide) rfl (by decide) rfl rfl rfl ?_)
          repeat' ((fail_if_success (with_reducible show wpAny _ _ (pyIter _) _ _ _)); (first | (k_unfold; (try dsimp only)) | (k_end; wrow_close) | ((with_reducible show wpAny _ _ (exec _ _) _ _ { heap := _, gens := _, drawn := _, toks := _ + 1, os := _ }); refine genT ?_; intro __tkT) | walk1 | (dsimp only; walk1) | (leave1; try dsimp only)))
          k_dflt (refine wpAny_pyIter_list (News.isList N15 z5) ?_)
          have hlta := Heap.lt_size (N15 _ z5).1
          refine ⟨_, _, _, _, _, _, _, rfl, Walks.list rfl _ ll (Nat.ne_of_lt hlta) vl.toArray, by rw [sizeLine_eq, List.size_toArray, strs_len g6]; have := g10.sub; omega, ⟨⟨_, Heap.get?_push_size _ rfl, rfl, rfl⟩, ⟨_, Heap.get?_push_of_some _ (N15 _ z5).1, rfl, _, rfl⟩⟩, ?small, ?hLf, (F15.push _).ns, ⟨?tests, ?elt⟩, ?fin⟩
          case small =>
            intro b hb
            rcases List.mem_cons.mp hb with rfl | hb
            · show _ < (h15.push _).objs.size
              rw [Heap.size_push]; exact Nat.lt_succ_self _
            · show _ < (h15.push _).objs.size
              rw [Heap.size_push, List.mem_singleton.mp hb]; exact Nat.lt_succ_of_lt hlta
          case hLf => exact fun hm => absurd F15.ns.lt ((List.mem_singleton.mp hm) ▸ Nat.lt_irrefl _)
          case tests =>
            intro C j v s₃ m₃ E' hC hP hns hmx hkp htk
            have up : ∀ b o, h15.get? b = some o → s₃.heap.get? b = some o := fun b o e => hkp b o (fun hm => Nat.lt_irrefl _ (by have := Heap.lt_size e; rw [List.mem_singleton.mp hm] at this; exact this)) (Heap.get?_push_of_some _ e)
            have F16 := F15.keeps up
            have N16 := N15.grown up
            refine sealG fun GG18 hGG18 => ?_
            obtain ⟨hp3, g3', d3, tk3, os3⟩ := s₃
            clear hkp up
            obtain ⟨z, tz, hz, rfl⟩ := strs_get g6 (by simpa using hP)
            refine hGG18 ?_
            rw [List.forIn_cons]
            simp only [if_true]
            refine wpAny_bind (wpAny_bind ?_)
            repeat' ((fail_if_success (with_reducible show wpAny _ _ (compareOp CmpOp.NotIn _ _) _ _ _)); (first | (k_unfold; (try dsimp only)) | (k_end; wrow_close) | ((with_reducible show wpAny _ _ (exec _ _) _ _ { heap := _, gens := _, drawn := _, toks := _ + 1, os := _ }); refine genT ?_; intro __tkT) | walk1 | (dsimp only; walk1) | (leave1; try dsimp only)))
            k_dflt (refine notin_strs N16 z0 hys9 ?_)
            repeat' ((first | (k_unfold; (try dsimp only)) | (k_end; wrow_close) | ((with_reducible show wpAny _ _ (exec _ _) _ _ { heap := _, gens := _, drawn := _, toks := _ + 1, os := _ }); refine genT ?_; intro __tkT) | walk1 | (dsimp only; walk1) | (leave1; try dsimp only)))
            refine wpAny_pure ?_
            dsimp only
            rw [List.forIn_nil]
            exact wpAny_pure ⟨rfl, _, _, rfl, fun _ _ e => e⟩
          case elt =>
            intro C j v s₃ m₃ E' hC hP hpv hns hmx hkp htk
            have up : ∀ b o, h15.get? b = some o → s₃.heap.get? b = some o := fun b o e => hkp b o (fun hm => Nat.lt_irrefl _ (by have := Heap.lt_size e; rw [List.mem_singleton.mp hm] at this; exact this)) (Heap.get?_push_of_some _ e)
            have F16 := F15.keeps up
            have N16 := N15.grown up
            refine sealG fun GG19 hGG19 => ?_
            obtain ⟨hp3, g3', d3, tk3, os3⟩ := s₃
            refine hGG19 ?_
            clear hkp up
            repeat' ((fail_if_success (with_reducible show _ ∧ _)); (first | (k_unfold; (try dsimp only)) | (k_end; wrow_close) | ((with_reducible show wpAny _ _ (exec _ _) _ _ { heap := _, gens := _, drawn := _, toks := _ + 1, os := _ }); refine genT ?_; intro __tkT) | walk1 | (dsimp only; walk1) | (leave1; try dsimp only)))
            exact ⟨rfl, _, _, rfl, fun _ _ e => e⟩
          case fin =>
            intro D16 h16 tk16 ys16 vs16 hD16 hl16 hpl16 hvl16 hP16 hpair16 hns16 hkeep16
            refine sealG fun GG20 hGG20 => ?_
            obtain rfl := list_of_items (items := vl.toArray) hvl16 hP16
            have hys16 := paired_eq hpair16
            obtain ⟨ep16, F16, N16, nd16, far16⟩ := comp_newsA F15 N15 nd15 hD16 hpl16 hns16 (fun b o hb e => hkeep16 b o hb (fun hm => Nat.lt_irrefl _ (by have := Heap.lt_size e; rw [List.mem_singleton.mp hm] at this; exact this)) (Heap.get?_push_of_some _ e))
            obtain ⟨us16, rfl⟩ : ∃ us : List Value, ys16 = us.toArray := ⟨ys16.toList, by simp⟩
            have hgone : StrsAre us16 (gone needs names left) := by
              rw [← filter_gone, show us16 = us16.toArray.toList from rfl, hys16]; exact strs_filter g6 _
            clear hpair16 hP16 hvl16 hkeep16 hl16 hns16 hD16
            obtain ⟨led11, hled11⟩ : ∃ l, l = (D16, W.listOf us16.toArray ep16) :: led10 := ⟨_, rfl⟩
            refine hGG20 ?_
            rw [← hled11] at N16 nd16
            have up11 : ∀ p ∈ led10, p ∈ led11 := fun p hp => by rw [hled11]; exact .tail _ hp
            have e0 : (D16, W.listOf us16.toArray ep16) ∈ led11 := by rw [hled11]; exact .head _
            have e3 := up11 _ z3
            have e4 := up11 _ z4
            have e8 := up11 _ z8
            have e5 := up11 _ z5
            have ekl : ∀ p ∈ KL, p ∈ led11 := fun p hp => up11 _ (upp _ (up9 _ (upt _ (g11 _ hp))) (hKoff p hp).2.1)
            have erd : RoundsAre OK led11 vr dn := g9.mono fun a us ep _ hm => up11 _ (upp _ (up9 _ (upt _ hm)) (ne_cell nd14 (up9 _ (upt _ hm)) y4 g4))
            repeat' ((fail_if_success (with_reducible show wpAny _ _ (compareOp CmpOp.Eq _ _) _ _ _)); (first | (k_unfold; (try dsimp only)) | (k_end; wrow_close) | walk1 | (dsimp only; walk1) | (leave1; try dsimp only)))
            rename_i le h18 F18 N18 b18
            have nd18 := nodup_cons_of (p := (le, W.listOf #[] 0)) nd16 b18
            k_dflt (refine eq_strs (by units_room) N18 (.tail _ e0) (.head _) hgone .nil ?_)
            by_cases hgn : gone needs names left = []
            · rw [decide_eq_true hgn]
              repeat' ((first | (k_unfold; (try dsimp only)) | (k_end; wrow_close) | ((with_reducible show wpAny _ _ (exec _ _) _ _ { heap := _, gens := _, drawn := _, toks := _ + 1, os := _ }); refine genT ?_; intro __tkT) | walk1 | (dsimp only; walk1) | (leave1; try dsimp only)))
              have hre := g10.brk hgn
              rw [hnames] at hre
              rw [hOKd] at g7 erd
              unfold TurnEnd
              dsimp only
              repeat' ((first | (k_unfold; (try dsimp only)) | (k_end; wrow_close) | ((with_reducible show wpAny _ _ (exec _ _) _ _ { heap := _, gens := _, drawn := _, toks := _ + 1, os := _ }); refine genT ?_; intro __tkT) | walk1 | (dsimp only; walk1) | (leave1; try dsimp only)))
              k_dflt refine ret _ _ _ rl ll vs16 epl left vr epr dn _ (by k_asm) (by k_asm) (nodup_cons_of nd18 (by simp only [bnd_cons, adr]; (repeat' (with_reducible refine Nat.max_le.mpr ⟨?_, ?_⟩)) <;> omega)) (fun p hp => .tail _ ((fun p hp => List.mem_cons_of_mem _ (ekl p (hKn p hp))) p hp)) (.head _) (by have q1 := mem_lt e8; have q2 : @LT.lt Nat instLTNat (L' + 1 + 1 + 1) (bnd led5) := hb3; omega) (.tail _ (List.mem_cons_of_mem _ e8)) (by have q2 : @LT.lt Nat instLTNat (L' + 1 + 1 + 1) (bnd led5) := hb3; omega) (.tail _ (List.mem_cons_of_mem _ e5)) g7.2 g6 (erd.mono fun a us ep _ hm => .tail _ (.tail _ hm)) hre
            · rw [decide_eq_false hgn]
              repeat' ((fail_if_success (with_reducible show wpAny _ _ (PySem.call (Value.builtin "sorted") _ _) _ _ _)); (first | (k_unfold; (try dsimp only)) | (k_end; wrow_close) | ((with_reducible show wpAny _ _ (exec _ _) _ _ { heap := _, gens := _, drawn := _, toks := _ + 1, os := _ }); refine genT ?_; intro __tkT) | walk1 | (dsimp only; walk1) | (leave1; try dsimp only)))
              have hgl : us16.length ≤ 20 := by
                rw [strs_len hgone]
                have h1 : (gone needs names left).length ≤ left.length := List.length_filter_le _ _
                have h2 := g10.sub
                omega
              k_dflt (refine sorted_N_str (by k_asm) N18 (News.isList N18 (.tail _ e0)) hgone (by omega) ?_)
              intro h19 us19 ss19 ep19 F19 N19 hS19 hp19 hs19
              have hsz19 : bnd ((le, W.listOf #[] 0) :: led11) ≤ h18.objs.size + 1 := Nat.le_succ_of_le (bnd_news N18)
              generalize hsl : h18.objs.size + 1 = sl19 at N19 hsz19
              simp only [show ({ s with heap := h18, toks := tk } : Shared).heap.objs.size + 1 = sl19 from hsl] at N19 ⊢
              have nd19 := nodup_cons_of (p := (sl19, seqObj "list" us19.toArray ep19)) nd18 hsz19
              refine sealG fun GG21 hGG21 => ?_
              obtain ⟨led12, hled12⟩ : ∃ l, l = (sl19, seqObj "list" us19.toArray ep19) :: (le, W.listOf #[] 0) :: led11 := ⟨_, rfl⟩
              refine hGG21 ?_
              rw [← hled12] at N19 nd19
              have up12 : ∀ p ∈ led11, p ∈ led12 := fun p hp => by rw [hled12]; exact .tail _ (.tail _ hp)
              have f3 := up12 _ e3
              have f4 := up12 _ e4
              have f8 := up12 _ e8
              have f0 : (sl19, W.listOf us19.toArray ep19) ∈ led12 := by rw [hled12]; exact .head _
              repeat' ((fail_if_success (with_reducible show wpAny _ _ (PySem.call (Value.builtin "list.append") _ _) _ _ _)); (first | (k_unfold; (try dsimp only)) | (k_end; wrow_close) | ((with_reducible show wpAny _ _ (exec _ _) _ _ { heap := _, gens := _, drawn := _, toks := _ + 1, os := _ }); refine genT ?_; intro __tkT) | walk1 | (dsimp only; walk1) | (leave1; try dsimp only)))
              have hrz : vr.toArray.size ≤ sizeLine := by
                rw [sizeLine_eq, List.size_toArray, erd.len, g10.len]; omega
              k_dflt (refine append_K F19 N19 (upd_putA nd19 f8) ?_ hrz)
              intro h20 F20 N20
              have nd20 := nodup_putA (d := rl) (o := W.listOf (vr.toArray.push (.ref sl19)) (epr + 1)) nd19
              refine sealG fun GG22 hGG22 => ?_
              obtain ⟨led13, hled13⟩ : ∃ l, l = putA rl (W.listOf (vr.toArray.push (.ref sl19)) (epr + 1)) led12 := ⟨_, rfl⟩
              refine hGG22 ?_
              rw [← hled13] at N20 nd20
              have upr : ∀ p ∈ led12, @Ne Nat p.1 rl → p ∈ led13 := fun p hp hn => by rw [hled13]; exact mem_putA_ne (b := p.1) (x := p.2) hp hn
              have q3 := upr _ f3 (by show @Ne Nat (L' + 1 + 1 + 1) _; omega)
              have q4 := upr _ f4 (by show @Ne Nat (L' + 1 + 1 + 1 + 1) _; omega)
              repeat' ((fail_if_success (with_reducible show TurnEnd _ _ _ _ _ _ _ _ _ _)); (first | (k_unfold; (try dsimp only)) | (k_end; wrow_close) | ((with_reducible show wpAny _ _ (exec _ _) _ _ { heap := _, gens := _, drawn := _, toks := _ + 1, os := _ }); refine genT ?_; intro __tkT) | walk1 | (dsimp only; walk1) | (leave1; try dsimp only)))
              rename News g' L' _ (putA (L' + 1 + 1 + 1) _ led13) => N21
              rename Fr g' L' _ _ => F21
              rename Obj.data _ = Data.cell (some (Value.ref D9)) => d21
              rename_i h21 o21
              have hI0 : (I, io) ∈ lt := by rw [hlt]; exact .head _
              rw [hlt] at nd11
              have ni3 := neI nd11 g1
              have ni4 := neI nd11 g3
              have nir := neI nd11 g8
              have hIl : (I, io) ∈ led11 := up11 _ (upp _ (up9 _ hI0) ni4)
              have hIb := mem_lt hIl
              have b3 := mem_lt e3
              have br := mem_lt e8
              have brt := mem_lt g8'
              have bI := mem_lt hI0
              have hszb : @LE.le Nat instLENat (bnd led11) sl19 := by rw [bnd_cons] at hsz19; exact (Nat.max_le.mp hsz19).2
              clear hsz19
              have hrb : @LE.le Nat instLENat (bnd news) rl := by omega
              have chain : ∀ p ∈ led11, @Ne Nat p.1 rl → @Ne Nat p.1 (L' + 1 + 1 + 1) → @Ne Nat p.1 I → p ∈ dropA I (putA (L' + 1 + 1 + 1) o21 led13) := fun p hp n1 n2 n3 => mem_dropA.mpr ⟨mem_putA_ne (b := p.1) (x := p.2) (upr _ (up12 _ hp) n1) n2, n3⟩
              have chain0 : ∀ {a : Addr} {us : Array Value} {ep : Nat}, (a, W.listOf us ep) ∈ led₁ → @Ne Nat a rl → (a, W.listOf us ep) ∈ dropA I (putA (L' + 1 + 1 + 1) o21 led13) := fun {a us ep} hm n1 => chain _ (up11 _ (upp _ (up9 _ (upt _ hm)) (ne_cell nd14 (up9 _ (upt _ hm)) y4 g4))) n1 (ne_cell (List.nodup_cons.mp nd11).2 hm g1 g2) (Ne.symm (neI nd11 hm))
              refine TurnEnd.go (by k_asm) (Mine.News.sub N21 (dropA_sub (mem_putA_ne (upr _ (up12 _ hIl) nir) ni3))) (nodup_dropA (nodup_putA nd20)) (fun p hp => nomatch hp) ⟨?_, o21, o15, _, D9, us9, ep9, later needs names left, vr ++ [.ref sl19], epr + 1, dn ++ [gone needs names left], mem_dropA.mpr ⟨mem_putA_self q3, Ne.symm ni3⟩, d21, mem_dropA.mpr ⟨mem_putA_ne q4 (by show @Ne Nat (L' + 1 + 1 + 1 + 1) _; omega), Ne.symm ni4⟩, d15, chain _ (up11 _ z0) (by show @Ne Nat D9 _; omega) (by have := mem_lt g1'; show @Ne Nat D9 _; omega) (by show @Ne Nat D9 _; omega), hys9, hOK (by omega) (by omega), ?_, ?_, g10.step hi hgn, ?_⟩
              · repeat (first | exact SameL.refl _ _ | refine SameL.set (by repeat (first | exact List.Mem.head _ | apply List.Mem.tail)) ?_)
              · rw [← List.push_toArray]
                exact mem_dropA.mpr ⟨mem_putA_ne (by rw [hled13]; exact mem_putA_self f8) (Ne.symm hrl3), Ne.symm nir⟩
              · refine RoundsAre.snoc (g9.mono fun a us ep hok hm => chain0 hm (by rw [hOKd] at hok; exact hok.1)) (hOK (ne_up hszb br) (Nat.le_trans hrb (Nat.le_of_lt (Nat.lt_of_lt_of_le br hszb)))) (mem_dropA.mpr ⟨mem_putA_ne (upr _ f0 (ne_up hszb br)) (ne_up hszb b3), ne_up hszb hIb⟩) hS19 hs19 hp19
              · intro p hp
                exact chain p (ekl p hp) (hKoff p hp).2.2 (hKoff p hp).1 (Ne.symm (neI nd11 (g11 p hp)))
      case done =>
        intro h17 tk17 m17 led17 F17 N17 nd17 hJ17
        refine sealG fun GG23 hGG23 => ?_
        obtain ⟨hm17, ocl, ocr, cv, ll, vl, epl, left, vr, epr, dn, g1, g2, g3, g4, g5, g6, g7, g8, g9, g10, g11⟩ := hJ17
        refine hGG23 ?_
        replace F17 := fr_sameL F17 hm17
        simp only [canon, List.foldr] at F17
        have hre := g10.done
        rw [hnames] at hre
        rw [hOKd] at g7 g9
        repeat' ((first | (k_unfold; (try dsimp only)) | (k_end; wrow_close) | ((with_reducible show wpAny _ _ (exec _ _) _ _ { heap := _, gens := _, drawn := _, toks := _ + 1, os := _ }); refine genT ?_; intro __tkT) | walk1 | (dsimp only; walk1) | (leave1; try dsimp only)))
        k_dflt refine ret _ _ _ rl ll vl epl left vr epr dn _ (by k_asm) (by k_asm) (nodup_cons_of nd17 (by assumption)) (fun p hp => .tail _ ((fun p hp => g11 _ (hKn _ hp)) p hp)) (.head _) (by have q1 := mem_lt g8; have q2 : @LT.lt Nat instLTNat (L' + 1 + 1 + 1) (bnd led5) := hb3; omega) (.tail _ g8) (by have q2 : @LT.lt Nat instLTNat (L' + 1 + 1 + 1) (bnd led5) := hb3; omega) (.tail _ g5) g7.2 g6 (g9.mono fun a us ep _ hm => .tail _ ((fun p hp => hp) _ hm)) hre
end

end
section
open PySem PySem.W PyProof.Rows
set_option maxRecDepth 100000
-- a ledger grown out of another by objects laid above it
structure Fresh (news l : List (Addr × Obj)) (b : Nat) : Prop where
  nd : (l.map (·.1)).Nodup
  le : bnd l ≤ b
  lo : bnd news ≤ b
  up : ∀ p ∈ news, p ∈ l
  new : ∀ p ∈ l, p ∈ news ∨ @LE.le Nat instLENat (bnd news) p.1
theorem Fresh.start {news : List (Addr × Obj)} (h : (news.map (·.1)).Nodup) : Fresh news news (bnd news) := ⟨h, Nat.le_refl _, Nat.le_refl _, fun _ h => h, fun _ h => .inl h⟩
theorem Fresh.cons {news l : List (Addr × Obj)} {b : Nat} {a : Addr} {o : Obj} (H : Fresh news l b) (h : @LE.le Nat instLENat b a) : Fresh news ((a, o) :: l) (Nat.succ a) := by
  obtain ⟨h1, h2, h3, h4, h5⟩ := H
  have h0 : @LE.le Nat instLENat (bnd l) a := Nat.le_trans h2 h
  refine ⟨nodup_cons_of h1 h0, ?_, Nat.le_trans h3 (Nat.le_succ_of_le h), fun p hp => .tail _ (h4 p hp), fun p hp => ?_⟩
  · rw [bnd_cons]; exact Nat.max_le.mpr ⟨Nat.le_refl _, Nat.le_succ_of_le h0⟩
  · rcases List.mem_cons.mp hp with rfl | hp
    · exact .inr (Nat.le_trans h3 h)
    · exact h5 p hp
theorem Fresh.tight {news l : List (Addr × Obj)} {b : Nat} (H : Fresh news l b) : Fresh news l (bnd l) := ⟨H.nd, Nat.le_refl _, bnd_le (allLt_of fun _ hp => lt_bnd (H.up _ hp)), H.up, H.new⟩
theorem fresh_of {h₀ h : Heap} {L : Addr} {news l : List (Addr × Obj)} {b : Nat} (_ : News h₀ L h l) (H : Fresh news l b) : Fresh news l b := H
noncomputable def langOf : Nat → Str
  | 0 => Str.ofString "C"
  | 1 => Str.ofString "C"
  | 2 => Str.ofString "de"
  | 3 => Str.ofString "de.x"
  | _ => Str.ofString ""
noncomputable def encOf : Nat → Option Str
  | 0 => none
  | 1 => some (Str.ofString "x")
  | 2 => some (Str.ofString "x.y")
  | _ => some (Str.ofString "")
theorem langOf_len (i : Nat) : (langOf i).length ≤ 100 := by
  match i with
  | 0 => decide +kernel
  | 1 => decide +kernel
  | 2 => decide +kernel
  | 3 => decide +kernel
  | n + 4 => show (Str.ofString "").length ≤ 100; decide +kernel
theorem encOf_len (i : Nat) : ∀ z, encOf i = some z → z.length ≤ 100 := by
  intro z h
  match i, h with
  | 0, h => cases h
  | 1, h => cases h; decide +kernel
  | 2, h => cases h; decide +kernel
  | n + 3, h => cases h; decide +kernel
theorem lang_at {t1 t2 t3 t4 : Tok} {k : Int} (h0 : 0 ≤ k) (h1 : k < 5) : ∃ v, [Value.none, .str (Str.ofString "C") t1, .str (Str.ofString "de") t2, .str (Str.ofString "de.x") t3, .str (Str.ofString "") t4][k.toNat]? = some v ∧ LangIs v (langOf k.toNat) := by
  obtain ⟨n, rfl⟩ : ∃ n : Nat, k = n := ⟨k.toNat, by omega⟩
  rw [Int.toNat_natCast]
  match n, h1 with
  | 0, _ => exact ⟨_, rfl, .inl ⟨rfl, rfl⟩⟩
  | 1, _ => exact ⟨_, rfl, .inr ⟨_, rfl⟩⟩
  | 2, _ => exact ⟨_, rfl, .inr ⟨_, rfl⟩⟩
  | 3, _ => exact ⟨_, rfl, .inr ⟨_, rfl⟩⟩
  | 4, _ => exact ⟨_, rfl, .inr ⟨_, rfl⟩⟩
  | m + 5, h => omega
theorem enc_at {t1 t2 t3 : Tok} {k : Int} (h0 : 0 ≤ k) (h1 : k < 4) : ∃ v, [Value.none, .str (Str.ofString "x") t1, .str (Str.ofString "x.y") t2, .str (Str.ofString "") t3][k.toNat]? = some v ∧ EncIs v (encOf k.toNat) := by
  obtain ⟨n, rfl⟩ : ∃ n : Nat, k = n := ⟨k.toNat, by omega⟩
  rw [Int.toNat_natCast]
  match n, h1 with
  | 0, _ => exact ⟨_, rfl, .inl ⟨rfl, rfl⟩⟩
  | 1, _ => exact ⟨_, rfl, .inr ⟨_, _, rfl, rfl⟩⟩
  | 2, _ => exact ⟨_, rfl, .inr ⟨_, _, rfl, rfl⟩⟩
  | 3, _ => exact ⟨_, rfl, .inr ⟨_, _, rfl, rfl⟩⟩
  | m + 4, h => omega
noncomputable def RowIs (i : Nat) (items : List Value) : Prop := ∀ k : Int, 0 ≤ k → k < 4 → ∃ t, items[k.toNat]? = some (.str (nm (langOf i) (encOf k.toNat)) t)
theorem rowIs {i : Nat} {a b c d : Str} {t1 t2 t3 t4 : Tok} (h1 : a = nm (langOf i) (encOf 0)) (h2 : b = nm (langOf i) (encOf 1)) (h3 : c = nm (langOf i) (encOf 2)) (h4 : d = nm (langOf i) (encOf 3)) : RowIs i [.str a t1, .str b t2, .str c t3, .str d t4] := by
  intro k h0 h5
  obtain ⟨n, rfl⟩ : ∃ n : Nat, k = n := ⟨k.toNat, by omega⟩
  rw [Int.toNat_natCast]
  match n, h5 with
  | 0, _ => exact ⟨_, by rw [← h1]; rfl⟩
  | 1, _ => exact ⟨_, by rw [← h2]; rfl⟩
  | 2, _ => exact ⟨_, by rw [← h3]; rfl⟩
  | 3, _ => exact ⟨_, by rw [← h4]; rfl⟩
  | m + 4, h => omega
theorem row_at {led : List (Addr × Obj)} {r0 r1 r2 r3 r4 : Addr} {i0 i1 i2 i3 i4 : List Value} {e0 e1 e2 e3 e4 : Nat} (m0 : (r0, W.listOf i0.toArray e0) ∈ led) (m1 : (r1, W.listOf i1.toArray e1) ∈ led) (m2 : (r2, W.listOf i2.toArray e2) ∈ led) (m3 : (r3, W.listOf i3.toArray e3) ∈ led) (m4 : (r4, W.listOf i4.toArray e4) ∈ led)
    (h0 : RowIs 0 i0) (h1 : RowIs 1 i1) (h2 : RowIs 2 i2) (h3 : RowIs 3 i3) (h4 : RowIs 4 i4) {k : Int} (k0 : 0 ≤ k) (k1 : k < 5) :
    ∃ r its ep, [Value.ref r0, .ref r1, .ref r2, .ref r3, .ref r4][k.toNat]? = some (.ref r) ∧ (r, W.listOf its.toArray ep) ∈ led ∧ RowIs k.toNat its := by
  obtain ⟨n, rfl⟩ : ∃ n : Nat, k = n := ⟨k.toNat, by omega⟩
  rw [Int.toNat_natCast]
  match n, k1 with
  | 0, _ => exact ⟨_, _, _, rfl, m0, h0⟩
  | 1, _ => exact ⟨_, _, _, rfl, m1, h1⟩
  | 2, _ => exact ⟨_, _, _, rfl, m2, h2⟩
  | 3, _ => exact ⟨_, _, _, rfl, m3, h3⟩
  | 4, _ => exact ⟨_, _, _, rfl, m4, h4⟩
  | m + 5, h => omega
theorem fmod_bounds (f k : Int) (hk : 0 < k) : 0 ≤ f.fmod k ∧ f.fmod k < k := by
  rw [Int.fmod_eq_emod_of_nonneg f (Int.le_of_lt hk)]
  exact ⟨Int.emod_nonneg f (Int.ne_of_gt hk), Int.emod_lt_of_pos f hk⟩
theorem nm0 : Str.ofString "C" = nm (langOf 0) (encOf 0) := by decide +kernel
inductive PairIs (led : List (Addr × Obj)) : Value → Option Str → Prop
  | tup {p : Addr} {n : Nat} {lv ev : Value} {x : Str} {y : Option Str} : (p, ({ cls := .type "tuple", data := .seq #[lv, ev] n } : Obj)) ∈ led → LangIs lv x → EncIs ev y → x.length ≤ 100 → (∀ z, y = some z → z.length ≤ 100) → PairIs led (.ref p) (some (nm x y))
  | lst {p : Addr} {n : Nat} {lv ev : Value} {x : Str} {y : Option Str} : (p, ({ cls := .type "list", data := .seq #[lv, ev] n } : Obj)) ∈ led → LangIs lv x → EncIs ev y → x.length ≤ 100 → (∀ z, y = some z → z.length ≤ 100) → PairIs led (.ref p) (some (nm x y))
  | text {t : Tok} : PairIs led (.str (Str.ofString "Cx") t) (some (Str.ofString "C.x"))
  | three {p : Addr} {n : Nat} {lv ev : Value} : (p, ({ cls := .type "tuple", data := .seq #[lv, ev, .none] n } : Obj)) ∈ led → PairIs led (.ref p) none
  | one {p : Addr} {n : Nat} {lv : Value} : (p, ({ cls := .type "list", data := .seq #[lv] n } : Obj)) ∈ led → PairIs led (.ref p) none
  | num {p : Addr} {n : Nat} {lv : Value} {x : Str} {t : Tok} : (p, ({ cls := .type "tuple", data := .seq #[lv, .int 7 t] n } : Obj)) ∈ led → LangIs lv x → x.length ≤ 100 → PairIs led (.ref p) none
inductive DueIs (led : List (Addr × Obj)) (lo : Nat) (need : Str) : Value → Option Str → Prop
  | none : DueIs led lo need .none none
  | some {d : Addr} {n : Nat} {x : Str} {t u : Tok} : (d, ({ cls := .type "tuple", data := .seq #[.str x t, .str need u] n } : Obj)) ∈ led → @LE.le Nat instLENat lo d → DueIs led lo need (.ref d) (some x)

end
section
local macro_rules | `(tactic| walk_at "none") => `(tactic| fail)
theorem offG14 : True := by
  w_top off
  trivial
open PySem PySem.W PyProof.Rows
set_option maxRecDepth 100000
set_option maxHeartbeats 8000000
section
variable {w : World} {s₀ : Shared} {mg mb : Str → Option Value} {dp un : Nat} {gd : Option (List Code)} {cn : Str} {cs : Scope} {a : Addr} {ccd : Value} {cl : List (Str × Addr)} {outer : List Env} {A₀ : Around} {base h₀ : Heap} {L : Addr} {m : Str → Option Value} {news : List (Addr × Obj)} {s : Shared} {Q E : Value → Shared → Prop}
set_option pp.maxSteps 4000 in
theorem needB (B : Below A₀ base outer h₀) (F : Fr h₀ L s.heap m) (X : (hd.heap_1 w.params).In h₀) (N : News h₀ L s.heap news) (T : Top hd.view_1 (looseW hd.view_1 [Str.ofString "_NodeInfo"]) (ExcName.means s₀.heap) mg mb h₀) (hk : cs.kind = .function) (hnd : (news.map (·.1)).Nodup)
    {f : Int} {tf : Tok} (hf0 : 0 ≤ f) (hf1 : f < 1000000) (hd : dp + 60 < recursionLimit) (hu : un + 100 < cLine)
    (ret : ∀ h' tk' T pv dv o x' y' lv' ev' n' name led', Fr h₀ L h' m → News h₀ L h' led' → (led'.map (·.1)).Nodup → (∀ p ∈ news, p ∈ led') → (T, ({ cls := .type "tuple", data := .seq #[pv, .ref o, dv] } : Obj)) ∈ led' → (∀ p ∈ led', p ∈ news ∨ @LE.le Nat instLENat (bnd news) p.1) →
      (o, ({ cls := .type "tuple", data := .seq #[lv', ev'] n' } : Obj)) ∈ led' → LangIs lv' x' → EncIs ev' y' → x'.length ≤ 100 → (∀ z, y' = some z → z.length ≤ 100) → PairIs led' pv name → DueIs led' (bnd news) (nm x' y') dv name → Q (.ref T) { s with heap := h', toks := tk' })
    : wpAny (model (PySem.Challenge.rw_mr0291_01.row.prog) w) (ktrTop dp un gd cn cs L a ccd cl outer) (call (.ref 155) [.int f tf]) Q E s := by
  revert X; k_fill; intro X
  refine wpAny_call ?_
  k_dflt (refine' code_def (binds := [(Str.ofString "figure", .int f tf)]) ?k1 ?k2 ?k3 ?k4 ?k5 ?kA ?kF ?kK ?k6 ?k7 ?k8 ?k9 ?kB ?_ ?c2 ?c3 ?c4 ?c5; (case kA => exact rfl); (case kF => exact rfl); (case kK => assumption); (case k1 => k_asm); (case k2 => k_asm); (case k3 => k_asm); (case k4 => k_asm); (case k5 => k_asm); (case k6 => k_is); (case k7 => k_is); (case k8 => ktr_room); (case k9 => exact BindsTo.of_eq rfl); (case c5 => decide); (case kB => exact locs rfl); (case c2 => exact rfl); (case c3 => exact rfl); (case c4 => exact rfl); k_whole; intro g' L' h' FG' F' N' B' X' T'; (try dsimp only); (try k_fold))
  repeat' ((fail_if_success (with_reducible show wpAny _ _ (subscriptTail _ _ _ _) _ _ _)); (first | (k_unfold; (try dsimp only)) | (k_end; wrow_close) | walk1 | (dsimp only; walk1) | (leave1; try dsimp only)))
  rename_i tk2 a7 g7 c7 g6 tk1 a6 g5 c6 g4 tk0 a5 g3 c5 a4 g2 c4 a3 g1 c3 a2 g0 c2 a1 f9 c1 a0 f8 c0 f7 f6 F1 N1
  refine sealG fun GG1 hGG1 => ?_
  obtain ⟨led, hled, N2⟩ : ∃ led, led = _ ∧ News g' L' f6 led := ⟨_, rfl, N1⟩
  clear N1
  have hFr : Fresh news led (bnd led) := Fresh.tight (by rw [hled]; repeat' (first | with_reducible exact Fresh.start hnd | with_reducible apply Fresh.cons | ((with_reducible show @LE.le Nat _ _ _); omega)))
  obtain ⟨l1, l2, l3, l4, mL⟩ : ∃ t1 t2 t3 t4, (a7, W.listOf [Value.none, .str (Str.ofString "C") t1, .str (Str.ofString "de") t2, .str (Str.ofString "de.x") t3, .str (Str.ofString "") t4].toArray 0) ∈ led := ⟨_, _, _, _, (by rw [hled]; repeat (first | exact List.Mem.head _ | apply List.Mem.tail))⟩
  obtain ⟨e1, e2, e3, mE⟩ : ∃ t1 t2 t3, (a6, W.listOf [Value.none, .str (Str.ofString "x") t1, .str (Str.ofString "x.y") t2, .str (Str.ofString "") t3].toArray 0) ∈ led := ⟨_, _, _, (by rw [hled]; repeat (first | exact List.Mem.head _ | apply List.Mem.tail))⟩
  obtain ⟨its0, mr0, hr0⟩ : ∃ its, (a5, W.listOf its.toArray 0) ∈ led ∧ RowIs 0 its := ⟨[.str (Str.ofString "C") _, .str (Str.ofString "C.x") _, .str (Str.ofString "C.x.y") _, .str (Str.ofString "C.") _], (by rw [hled]; repeat (first | exact List.Mem.head _ | apply List.Mem.tail)), rowIs (by decide +kernel) (by decide +kernel) (by decide +kernel) (by decide +kernel)⟩
  obtain ⟨its1, mr1, hr1⟩ : ∃ its, (a4, W.listOf its.toArray 0) ∈ led ∧ RowIs 1 its := ⟨[.str (Str.ofString "C") _, .str (Str.ofString "C.x") _, .str (Str.ofString "C.x.y") _, .str (Str.ofString "C.") _], (by rw [hled]; repeat (first | exact List.Mem.head _ | apply List.Mem.tail)), rowIs (by decide +kernel) (by decide +kernel) (by decide +kernel) (by decide +kernel)⟩
  obtain ⟨its2, mr2, hr2⟩ : ∃ its, (a3, W.listOf its.toArray 0) ∈ led ∧ RowIs 2 its := ⟨[.str (Str.ofString "de") _, .str (Str.ofString "de.x") _, .str (Str.ofString "de.x.y") _, .str (Str.ofString "de.") _], (by rw [hled]; repeat (first | exact List.Mem.head _ | apply List.Mem.tail)), rowIs (by decide +kernel) (by decide +kernel) (by decide +kernel) (by decide +kernel)⟩
  obtain ⟨its3, mr3, hr3⟩ : ∃ its, (a2, W.listOf its.toArray 0) ∈ led ∧ RowIs 3 its := ⟨[.str (Str.ofString "de.x") _, .str (Str.ofString "de.x.x") _, .str (Str.ofString "de.x.x.y") _, .str (Str.ofString "de.x.") _], (by rw [hled]; repeat (first | exact List.Mem.head _ | apply List.Mem.tail)), rowIs (by decide +kernel) (by decide +kernel) (by decide +kernel) (by decide +kernel)⟩
  obtain ⟨its4, mr4, hr4⟩ : ∃ its, (a1, W.listOf its.toArray 0) ∈ led ∧ RowIs 4 its := ⟨[.str (Str.ofString "") _, .str (Str.ofString ".x") _, .str (Str.ofString ".x.y") _, .str (Str.ofString ".") _], (by rw [hled]; repeat (first | exact List.Mem.head _ | apply List.Mem.tail)), rowIs (by decide +kernel) (by decide +kernel) (by decide +kernel) (by decide +kernel)⟩
  have mT : (a0, W.listOf [Value.ref a5, .ref a4, .ref a3, .ref a2, .ref a1].toArray 0) ∈ led := by rw [hled]; repeat (first | exact List.Mem.head _ | apply List.Mem.tail)
  clear hled
  have hbl : bnd news ≤ bnd led := by have := mem_lt mL; omega
  clear c0 c1 c2 c3 c4 c5 c6 c7
  have b1 := fmod_bounds (f.fdiv 8) 5 (by decide)
  have b2 := fmod_bounds (f.fdiv 40) 4 (by decide)
  have b3 := fmod_bounds (f.fdiv 160) 5 (by decide)
  have b4 := fmod_bounds (f.fdiv 800) 4 (by decide)
  obtain ⟨lv, hlv, hLg⟩ := lang_at (t1 := l1) (t2 := l2) (t3 := l3) (t4 := l4) b1.1 b1.2
  obtain ⟨ev, hev, hEc⟩ := enc_at (t1 := e1) (t2 := e2) (t3 := e3) b2.1 b2.2
  obtain ⟨r1, its, ep1, hr1, mr, hrow⟩ := row_at mr0 mr1 mr2 mr3 mr4 hr0 hr1 hr2 hr3 hr4 b1.1 b1.2
  obtain ⟨tn, hnm⟩ := hrow _ b2.1 b2.2
  refine hGG1 ?_
  k_dflt (refine kim_list (news := led) (by k_asm) mL rfl rfl b1.1 (by have := b1.2; omega) hlv ?_)
  repeat' ((fail_if_success (with_reducible show wpAny _ _ (subscriptTail _ _ _ _) _ _ _)); (first | (k_unfold; (try dsimp only)) | (k_end; wrow_close) | ((with_reducible show wpAny _ _ (exec _ _) _ _ { heap := _, gens := _, drawn := _, toks := _ + 1, os := _ }); refine genT ?_; intro __tkT) | ((with_reducible show wpAny _ _ (exec _ _) _ _ _); refine sealQ ?_; intro qQ; walk1) | walk1 | (dsimp only; walk1) | (leave1; try dsimp only)))
  k_dflt (refine kim_list (news := led) (by k_asm) mE rfl rfl b2.1 (by have := b2.2; omega) hev ?_)
  repeat' ((fail_if_success (with_reducible show wpAny _ _ (subscriptTail _ _ _ _) _ _ _)); (first | (k_unfold; (try dsimp only)) | (k_end; wrow_close) | ((with_reducible show wpAny _ _ (exec _ _) _ _ { heap := _, gens := _, drawn := _, toks := _ + 1, os := _ }); refine genT ?_; intro __tkT) | ((with_reducible show wpAny _ _ (exec _ _) _ _ _); refine sealQ ?_; intro qQ; walk1) | walk1 | (dsimp only; walk1) | (leave1; try dsimp only)))
  k_dflt (refine kim_list (news := led) (by k_asm) mT rfl rfl b1.1 (by have := b1.2; omega) hr1 ?_)
  repeat' ((fail_if_success (with_reducible show wpAny _ _ (subscriptTail _ _ _ _) _ _ _)); (first | (k_unfold; (try dsimp only)) | (k_end; wrow_close) | ((with_reducible show wpAny _ _ (exec _ _) _ _ { heap := _, gens := _, drawn := _, toks := _ + 1, os := _ }); refine genT ?_; intro __tkT) | ((with_reducible show wpAny _ _ (exec _ _) _ _ _); refine sealQ ?_; intro qQ; walk1) | walk1 | (dsimp only; walk1) | (leave1; try dsimp only)))
  k_dflt (refine kba_turn (value' := PySem.Expr.Name (PySem.Str.ofString "_") ⟨0, 0, 0, 0⟩) (fun _ => rfl) ?_)
  k_dflt (refine kim_list (news := led) (by k_asm) mr rfl rfl b2.1 (by have := b2.2; omega) hnm ?_)
  clear hlv hev hr1 hrow hnm mr
  refine sealG fun GG2 hGG2 => ?_
  obtain ⟨lv', hlv, hLg'⟩ := lang_at (t1 := l1) (t2 := l2) (t3 := l3) (t4 := l4) b3.1 b3.2
  obtain ⟨ev', hev, hEc'⟩ := enc_at (t1 := e1) (t2 := e2) (t3 := e3) b4.1 b4.2
  obtain ⟨r2, its', ep2, hr2, mr, hrow⟩ := row_at mr0 mr1 mr2 mr3 mr4 hr0 hr1 hr2 hr3 hr4 b3.1 b3.2
  obtain ⟨tn', hnm⟩ := hrow _ b4.1 b4.2
  refine hGG2 ?_
  repeat' ((fail_if_success (with_reducible show wpAny _ _ (subscriptTail _ _ _ _) _ _ _)); (first | (k_unfold; (try dsimp only)) | (k_end; wrow_close) | ((with_reducible show wpAny _ _ (exec _ _) _ _ { heap := _, gens := _, drawn := _, toks := _ + 1, os := _ }); refine genT ?_; intro __tkT) | ((with_reducible show wpAny _ _ (exec _ _) _ _ _); refine sealQ ?_; intro qQ; walk1) | walk1 | (dsimp only; walk1) | (leave1; try dsimp only)))
  all_goals (k_dflt (refine kim_list (by k_asm) (by first | exact mL | exact .tail _ mL | exact .tail _ (.tail _ mL) | exact .tail _ (.tail _ (.tail _ mL)) | exact .tail _ (.tail _ (.tail _ (.tail _ mL)))) (by rfl) (by rfl) b3.1 (by have := b3.2; omega) hlv ?_))
  all_goals (repeat' ((fail_if_success (with_reducible show wpAny _ _ (subscriptTail _ _ _ _) _ _ _)); (first | (k_unfold; (try dsimp only)) | (k_end; wrow_close) | ((with_reducible show wpAny _ _ (exec _ _) _ _ { heap := _, gens := _, drawn := _, toks := _ + 1, os := _ }); refine genT ?_; intro __tkT) | ((with_reducible show wpAny _ _ (exec _ _) _ _ _); refine sealQ ?_; intro qQ; walk1) | walk1 | (dsimp only; walk1) | (leave1; try dsimp only))))
  all_goals (k_dflt (refine kim_list (by k_asm) (by first | exact mE | exact .tail _ mE | exact .tail _ (.tail _ mE) | exact .tail _ (.tail _ (.tail _ mE)) | exact .tail _ (.tail _ (.tail _ (.tail _ mE)))) (by rfl) (by rfl) b4.1 (by have := b4.2; omega) hev ?_))
  all_goals (repeat' ((fail_if_success (with_reducible show wpAny _ _ (subscriptTail _ _ _ _) _ _ _)); (first | (k_unfold; (try dsimp only)) | (k_end; wrow_close) | ((with_reducible show wpAny _ _ (exec _ _) _ _ { heap := _, gens := _, drawn := _, toks := _ + 1, os := _ }); refine genT ?_; intro __tkT) | ((with_reducible show wpAny _ _ (exec _ _) _ _ _); refine sealQ ?_; intro qQ; walk1) | walk1 | (dsimp only; walk1) | (leave1; try dsimp only))))
  all_goals (k_dflt (refine kim_list (by k_asm) (by first | exact mT | exact .tail _ mT | exact .tail _ (.tail _ mT) | exact .tail _ (.tail _ (.tail _ mT)) | exact .tail _ (.tail _ (.tail _ (.tail _ mT)))) (by rfl) (by rfl) b3.1 (by have := b3.2; omega) hr2 ?_))
  all_goals (repeat' ((fail_if_success (with_reducible show wpAny _ _ (subscriptTail _ _ _ _) _ _ _)); (first | (k_unfold; (try dsimp only)) | (k_end; wrow_close) | ((with_reducible show wpAny _ _ (exec _ _) _ _ { heap := _, gens := _, drawn := _, toks := _ + 1, os := _ }); refine genT ?_; intro __tkT) | ((with_reducible show wpAny _ _ (exec _ _) _ _ _); refine sealQ ?_; intro qQ; walk1) | walk1 | (dsimp only; walk1) | (leave1; try dsimp only))))
  all_goals (k_dflt (refine kba_turn (value' := PySem.Expr.Name (PySem.Str.ofString "_") ⟨0, 0, 0, 0⟩) (fun _ => rfl) ?_))
  all_goals (k_dflt (refine kim_list (by k_asm) (by first | exact mr | exact .tail _ mr | exact .tail _ (.tail _ mr) | exact .tail _ (.tail _ (.tail _ mr)) | exact .tail _ (.tail _ (.tail _ (.tail _ mr)))) (by rfl) (by rfl) b4.1 (by have := b4.2; omega) hnm ?_))
  all_goals clear hlv hev hr2 hrow hnm mr
  all_goals (repeat' ((first | (k_unfold; (try dsimp only)) | (k_end; wrow_close) | ((with_reducible show wpAny _ _ (exec _ _) _ _ { heap := _, gens := _, drawn := _, toks := _ + 1, os := _ }); refine genT ?_; intro __tkT) | ((with_reducible show wpAny _ _ (exec _ _) _ _ _); refine sealQ ?_; intro qQ; walk1) | walk1 | (dsimp only; walk1) | (leave1; try dsimp only))))
  · rename Fr h₀ L _ _ => kF
    rename News h₀ L _ _ => kN
    have hFrE := fresh_of (news := news) kN (by repeat' (first | with_reducible exact hFr | with_reducible apply Fresh.cons | ((with_reducible show @LE.le Nat _ _ _); omega)))
    k_dflt (refine' ret _ _ _ _ _ _ (langOf ((f.fdiv 160).fmod 5).toNat) (encOf ((f.fdiv 800).fmod 4).toNat) lv' ev' 0 (some (nm (langOf ((f.fdiv 8).fmod 5).toNat) (encOf ((f.fdiv 40).fmod 4).toNat))) _ kF kN hFrE.nd hFrE.up ?rT0 hFrE.new ?ro0 hLg' hEc' (langOf_len _) (encOf_len _) ?rp0 ?rd0)
    case rT0 => exact List.Mem.head _
    case ro0 => (repeat (first | exact List.Mem.head _ | apply List.Mem.tail))
    case rp0 => exact PairIs.lst (by repeat (first | exact List.Mem.head _ | apply List.Mem.tail)) hLg hEc (langOf_len _) (encOf_len _)
    case rd0 => exact DueIs.some (by repeat (first | exact List.Mem.head _ | apply List.Mem.tail)) (by omega)
  · rename Fr h₀ L _ _ => kF
    rename News h₀ L _ _ => kN
    have hFrE := fresh_of (news := news) kN (by repeat' (first | with_reducible exact hFr | with_reducible apply Fresh.cons | ((with_reducible show @LE.le Nat _ _ _); omega)))
    k_dflt (refine' ret _ _ _ _ _ _ (langOf ((f.fdiv 160).fmod 5).toNat) (encOf ((f.fdiv 800).fmod 4).toNat) lv' ev' 0 (some (Str.ofString "C.x")) _ kF kN hFrE.nd hFrE.up ?rT1 hFrE.new ?ro1 hLg' hEc' (langOf_len _) (encOf_len _) ?rp1 ?rd1)
    case rT1 => exact List.Mem.head _
    case ro1 => (repeat (first | exact List.Mem.head _ | apply List.Mem.tail))
    case rp1 => exact PairIs.text
    case rd1 => exact DueIs.some (by repeat (first | exact List.Mem.head _ | apply List.Mem.tail)) (by omega)
  · rename Fr h₀ L _ _ => kF
    rename News h₀ L _ _ => kN
    have hFrE := fresh_of (news := news) kN (by repeat' (first | with_reducible exact hFr | with_reducible apply Fresh.cons | ((with_reducible show @LE.le Nat _ _ _); omega)))
    k_dflt (refine' ret _ _ _ _ _ _ (langOf ((f.fdiv 160).fmod 5).toNat) (encOf ((f.fdiv 800).fmod 4).toNat) lv' ev' 0 none _ kF kN hFrE.nd hFrE.up ?rT2 hFrE.new ?ro2 hLg' hEc' (langOf_len _) (encOf_len _) ?rp2 ?rd2)
    case rT2 => exact List.Mem.head _
    case ro2 => (repeat (first | exact List.Mem.head _ | apply List.Mem.tail))
    case rp2 => exact PairIs.three (by repeat (first | exact List.Mem.head _ | apply List.Mem.tail))
    case rd2 => exact DueIs.none
  · rename Fr h₀ L _ _ => kF
    rename News h₀ L _ _ => kN
    have hFrE := fresh_of (news := news) kN (by repeat' (first | with_reducible exact hFr | with_reducible apply Fresh.cons | ((with_reducible show @LE.le Nat _ _ _); omega)))
    k_dflt (refine' ret _ _ _ _ _ _ (langOf ((f.fdiv 160).fmod 5).toNat) (encOf ((f.fdiv 800).fmod 4).toNat) lv' ev' 0 none _ kF kN hFrE.nd hFrE.up ?rT3 hFrE.new ?ro3 hLg' hEc' (langOf_len _) (encOf_len _) ?rp3 ?rd3)
    case rT3 => exact List.Mem.head _
    case ro3 => (repeat (first | exact List.Mem.head _ | apply List.Mem.tail))
    case rp3 => exact PairIs.one (by repeat (first | exact List.Mem.head _ | apply List.Mem.tail))
    case rd3 => exact DueIs.none
  · rename Fr h₀ L _ _ => kF
    rename News h₀ L _ _ => kN
    have hFrE := fresh_of (news := news) kN (by repeat' (first | with_reducible exact hFr | with_reducible apply Fresh.cons | ((with_reducible show @LE.le Nat _ _ _); omega)))
    k_dflt (refine' ret _ _ _ _ _ _ (langOf ((f.fdiv 160).fmod 5).toNat) (encOf ((f.fdiv 800).fmod 4).toNat) lv' ev' 0 none _ kF kN hFrE.nd hFrE.up ?rT4 hFrE.new ?ro4 hLg' hEc' (langOf_len _) (encOf_len _) ?rp4 ?rd4)
    case rT4 => exact List.Mem.head _
    case ro4 => (repeat (first | exact List.Mem.head _ | apply List.Mem.tail))
    case rp4 => exact PairIs.num (by repeat (first | exact List.Mem.head _ | apply List.Mem.tail)) hLg (langOf_len _)
    case rd4 => exact DueIs.none
  · rename Fr h₀ L _ _ => kF
    rename News h₀ L _ _ => kN
    have hFrE := fresh_of (news := news) kN (by repeat' (first | with_reducible exact hFr | with_reducible apply Fresh.cons | ((with_reducible show @LE.le Nat _ _ _); omega)))
    k_dflt (refine' ret _ _ _ _ _ _ (langOf ((f.fdiv 160).fmod 5).toNat) (encOf ((f.fdiv 800).fmod 4).toNat) lv' ev' 0 (some (nm (langOf ((f.fdiv 8).fmod 5).toNat) (encOf ((f.fdiv 40).fmod 4).toNat))) _ kF kN hFrE.nd hFrE.up ?rT5 hFrE.new ?ro5 hLg' hEc' (langOf_len _) (encOf_len _) ?rp5 ?rd5)
    case rT5 => exact List.Mem.head _
    case ro5 => (repeat (first | exact List.Mem.head _ | apply List.Mem.tail))
    case rp5 => exact PairIs.tup (by repeat (first | exact List.Mem.head _ | apply List.Mem.tail)) hLg hEc (langOf_len _) (encOf_len _)
    case rd5 => exact DueIs.some (by repeat (first | exact List.Mem.head _ | apply List.Mem.tail)) (by omega)
end

end
section
open PySem
noncomputable def namesOf (needs : Needs) : List Str := needs.foldl (fun l p => ins (ins l p.1) p.2) []
noncomputable def npOf (needs : Needs) (z : Str) : Int := (((needs.filter fun p => p.1 = z).length : Nat) : Int)
noncomputable def nms (needs : Needs) : List Str := firstsTo (gathered needs) (gathered needs).length
theorem mem_ins {l : List Str} {x z : Str} : z ∈ ins l x ↔ z ∈ l ∨ z = x := by
  unfold ins
  by_cases c : x ∈ l
  · rw [if_pos c]
    constructor
    · exact .inl
    · rintro (h | rfl)
      · exact h
      · exact c
  · rw [if_neg c, List.mem_append, List.mem_singleton]
theorem nodup_ins {l : List Str} {x : Str} (h : l.Nodup) : (ins l x).Nodup := by
  unfold ins
  by_cases c : x ∈ l
  · rw [if_pos c]; exact h
  · rw [if_neg c, List.nodup_append]
    refine ⟨h, by simp, fun a ha b hb e => ?_⟩
    rw [List.mem_singleton.mp hb] at e
    exact c (e ▸ ha)
theorem ins_len (l : List Str) (x : Str) : (ins l x).length ≤ l.length + 1 := by
  unfold ins; split <;> simp
theorem foldl_ins_mem {z : Str} : ∀ (needs : Needs) (l : List Str), z ∈ needs.foldl (fun l p => ins (ins l p.1) p.2) l ↔ z ∈ l ∨ ∃ p ∈ needs, z = p.1 ∨ z = p.2
  | [], l => by simp
  | p :: r, l => by
    rw [List.foldl_cons, foldl_ins_mem r, mem_ins, mem_ins]
    constructor
    · rintro (((h | h) | h) | ⟨q, hq, h⟩)
      · exact .inl h
      · exact .inr ⟨p, .head _, .inl h⟩
      · exact .inr ⟨p, .head _, .inr h⟩
      · exact .inr ⟨q, .tail _ hq, h⟩
    · rintro (h | ⟨q, hq, h⟩)
      · exact .inl (.inl (.inl h))
      · rcases List.mem_cons.mp hq with rfl | hq
        · rcases h with h | h
          · exact .inl (.inl (.inr h))
          · exact .inl (.inr h)
        · exact .inr ⟨q, hq, h⟩
theorem mem_namesOf {needs : Needs} {z : Str} : z ∈ namesOf needs ↔ ∃ p ∈ needs, z = p.1 ∨ z = p.2 := by
  unfold namesOf; rw [foldl_ins_mem]; simp
theorem foldl_ins_nodup : ∀ (needs : Needs) (l : List Str), l.Nodup → (needs.foldl (fun l p => ins (ins l p.1) p.2) l).Nodup
  | [], _, h => h
  | p :: r, l, h => by rw [List.foldl_cons]; exact foldl_ins_nodup r _ (nodup_ins (nodup_ins h))
theorem nodup_namesOf (needs : Needs) : (namesOf needs).Nodup := foldl_ins_nodup needs [] List.nodup_nil
theorem foldl_ins_len : ∀ (needs : Needs) (l : List Str), (needs.foldl (fun l p => ins (ins l p.1) p.2) l).length ≤ l.length + 2 * needs.length
  | [], l => by simp
  | p :: r, l => by
    have h1 := foldl_ins_len r (ins (ins l p.1) p.2)
    have h2 := ins_len (ins l p.1) p.2
    have h3 := ins_len l p.1
    rw [List.foldl_cons, List.length_cons]; omega
theorem namesOf_len (needs : Needs) : (namesOf needs).length ≤ 2 * needs.length := by
  have := foldl_ins_len needs []; simpa [namesOf] using this
theorem namesOf_snoc (needs : Needs) (x y : Str) : namesOf (needs ++ [(x, y)]) = ins (ins (namesOf needs) x) y := by
  unfold namesOf; rw [List.foldl_append]; rfl
theorem npOf_snoc (needs : Needs) (x y : Str) : (fun z => if z = x then npOf needs x + 1 else npOf needs z) = npOf (needs ++ [(x, y)]) := by
  funext z
  unfold npOf
  rw [List.filter_append, List.length_append]
  by_cases c : z = x
  · subst c; simp
  · have c' : ¬ x = z := fun e => c e.symm
    simp [c, c']
theorem scOf_snoc (needs : Needs) (x y : Str) : (fun z => if z = y then scOf needs y ++ [x] else scOf needs z) = scOf (needs ++ [(x, y)]) := by
  funext z
  unfold scOf
  rw [List.filter_append, List.map_append]
  by_cases c : z = y
  · subst c; simp
  · have c' : ¬ y = z := fun e => c e.symm
    simp [c, c']
theorem np_none {needs : Needs} {z : Str} (h : z ∉ namesOf needs) : npOf needs z = 0 ∧ scOf needs z = [] := by
  constructor
  · unfold npOf
    rw [List.filter_eq_nil_iff.mpr]
    · rfl
    · intro p hp c
      have c' : p.1 = z := by simpa using c
      exact h (mem_namesOf.mpr ⟨p, hp, .inl c'.symm⟩)
  · unfold scOf
    rw [List.filter_eq_nil_iff.mpr]
    · rfl
    · intro p hp c
      have c' : p.2 = z := by simpa using c
      exact h (mem_namesOf.mpr ⟨p, hp, .inr c'.symm⟩)
theorem scOf_len (needs : Needs) (z : Str) : (scOf needs z).length ≤ needs.length := by
  unfold scOf; rw [List.length_map]; exact List.length_filter_le _ _
theorem scOf_names {needs : Needs} {z y : Str} (h : y ∈ scOf needs z) : y ∈ namesOf needs := mem_namesOf.mpr ⟨(y, z), mem_scOf.mp h, .inl rfl⟩
theorem mem_nms {needs : Needs} {z : Str} : z ∈ nms needs ↔ ∃ p ∈ needs, z = p.1 ∨ z = p.2 := by
  unfold nms; rw [mem_firstsTo (Nat.le_refl _), List.take_length]; exact mem_gathered
theorem nodup_nms (needs : Needs) : (nms needs).Nodup := nodup_firstsTo (Nat.le_refl _)
theorem nms_names {needs : Needs} {z : Str} : z ∈ nms needs ↔ z ∈ namesOf needs := by rw [mem_nms, mem_namesOf]
theorem need_fst {needs : Needs} {p : Str × Str} (h : p ∈ needs) : p.1 ∈ nms needs := mem_nms.mpr ⟨p, h, .inl rfl⟩
theorem need_snd {needs : Needs} {p : Str × Str} (h : p ∈ needs) : p.2 ∈ nms needs := mem_nms.mpr ⟨p, h, .inr rfl⟩
theorem kinv_start (needs : Needs) {rd : List Str} (hn : rd.Nodup) (hr : ∀ x, x ∈ rd ↔ x ∈ namesOf needs ∧ npOf needs x = 0) : KInv needs (nms needs) (nms needs) (npOf needs) rd where
  live := fun x _ => by
    unfold npOf cnt
    congr 1
    congr 1
    refine List.filter_congr fun p hp => ?_
    have h2 := need_snd hp
    by_cases c : p.1 = x <;> simp [c, h2]
  ready := fun x => by
    rw [hr, mem_gone, nms_names]
    refine and_congr_right fun hx => ?_
    constructor
    · intro h0 hl
      obtain ⟨_, y, h1, _⟩ := mem_later.mp hl
      unfold npOf at h0
      have h3 : (needs.filter fun p => p.1 = x).length = 0 := by omega
      have h4 := List.length_eq_zero_iff.mp h3
      have h5 : (x, y) ∈ needs.filter fun p => p.1 = x := List.mem_filter.mpr ⟨h1, by simp⟩
      rw [h4] at h5; cases h5
    · intro hl
      unfold npOf
      rw [List.filter_eq_nil_iff.mpr]
      · rfl
      · intro p hp c
        have c' : p.1 = x := by simpa using c
        exact hl (mem_later.mpr ⟨nms_names.mpr hx, p.2, by rw [← c']; exact hp, need_snd hp⟩)
  nodup := hn
  down := fun x hx => (mem_later.mp hx).1
  sub := fun _ h => h
theorem ring_left {needs : Needs} {ring : List Str} {c : Str} {dn : List (List Str)} {left : List Str} (he : roundsFrom needs (nms needs) (nms needs).length (nms needs) = (dn, left))
    (hP : Path (scOf needs) (ring ++ [c])) (hl : 2 ≤ (ring ++ [c]).length) (h0 : (ring ++ [c])[0]? = some c) (hin : ∀ x ∈ ring ++ [c], x ∈ namesOf needs) : left ≠ [] := by
  have hmem : ∀ x, x ∈ ring ++ [c] → x ∈ nms needs ∧ ∃ y, (x, y) ∈ needs ∧ y ∈ ring ++ [c] := by
    intro x hx
    refine ⟨nms_names.mpr (hin x hx), ?_⟩
    have key : ∀ (p : Nat) (b : Str), (ring ++ [c])[p + 1]? = some b → ∃ y, (b, y) ∈ needs ∧ y ∈ ring ++ [c] := by
      intro p b hb
      obtain ⟨hi, _⟩ := List.getElem?_eq_some_iff.mp hb
      have hp : (ring ++ [c])[p]? = some ((ring ++ [c])[p]'(by omega)) := List.getElem?_eq_getElem (by omega)
      exact ⟨_, mem_scOf.mp (path_get hP hp hb), List.getElem_mem _⟩
    obtain ⟨i, hi, e⟩ := List.getElem_of_mem hx
    cases i with
    | succ p => exact key p x (by rw [List.getElem?_eq_getElem hi, e])
    | zero =>
      have hxc : x = c := by
        have h1 : (ring ++ [c])[0]? = some x := by rw [List.getElem?_eq_getElem hi, e]
        rw [h0] at h1; exact (Option.some.inj h1).symm
      subst hxc
      obtain ⟨p, hp⟩ : ∃ p, (ring ++ [x]).length - 1 = p + 1 := ⟨(ring ++ [x]).length - 2, by omega⟩
      exact key p x (by rw [← hp]; exact last_of_snoc)
  have hs := ring_stays (names := nms needs) (R := fun x => x ∈ ring ++ [c]) hmem (nms needs).length (nms needs) fun x hx => (hmem x hx).1
  rw [he] at hs
  intro e
  have hc : c ∈ ring ++ [c] := List.mem_append_right _ (.head _)
  have := hs c hc
  dsimp only at this
  rw [e] at this
  cases this
theorem topo_left {needs : Needs} {fin : List Str} {dn : List (List Str)} {left : List Str} (he : roundsFrom needs (nms needs) (nms needs).length (nms needs) = (dn, left)) (ht : Topo (scOf needs) fin) (hf : ∀ x ∈ namesOf needs, x ∈ fin) : left = [] := by
  have := nothing_left (needs := needs) (names := nms needs) ht (fun x hx => hf x (nms_names.mp hx)) (nodup_nms needs) (nms needs).length (nms needs) (Nat.le_refl _) (nodup_nms needs) (fun _ h => h) (fun x hx => (mem_later.mp hx).1)
  rw [he] at this
  exact this
structure GInv (needs : Needs) (left₀ : List Str) (dn : List (List Str)) (i : Nat) (left : List Str) : Prop where
  le : left.length + i ≤ (nms needs).length
  nodup : left.Nodup
  eq : roundsFrom needs (nms needs) ((nms needs).length - i) left = (dn.drop i, left₀)
section
variable {needs : Needs} {left₀ left rd : List Str} {dn : List (List Str)} {i : Nat} {np : Str → Int}
theorem GInv.start (he : roundsFrom needs (nms needs) (nms needs).length (nms needs) = (dn, left₀)) : GInv needs left₀ dn 0 (nms needs) := ⟨Nat.le_refl _, nodup_nms needs, by simpa using he⟩
theorem later_lt (K : KInv needs (nms needs) left np rd) (_ : left.Nodup) (hg : gone needs (nms needs) left ≠ []) : (later needs (nms needs) left).length < left.length := by
  cases hgl : gone needs (nms needs) left with
  | nil => exact absurd hgl hg
  | cons z r =>
    have hz : z ∈ gone needs (nms needs) left := by rw [hgl]; exact .head _
    obtain ⟨h1, h2⟩ := mem_gone.mp hz
    have hnl : (later needs (nms needs) left).Nodup := (nodup_nms needs).sublist List.filter_sublist
    have hsub : (z :: later needs (nms needs) left).Nodup := by rw [List.nodup_cons]; exact ⟨h2, hnl⟩
    have := sum_le_of_nodup (fun _ => 1) (z :: later needs (nms needs) left) left hsub (fun x hx => by
      rcases List.mem_cons.mp hx with rfl | hx
      · exact h1
      · exact K.down x hx)
    simp only [List.map_const', List.sum_replicate_nat, List.length_cons, Nat.mul_one] at this
    omega
theorem GInv.turn {g : List Str} (G : GInv needs left₀ dn i left) (K : KInv needs (nms needs) left np rd) (hg : dn[i]? = some g) : g = gone needs (nms needs) left ∧ GInv needs left₀ dn (i + 1) (later needs (nms needs) left) := by
  have hi : i < dn.length := (List.getElem?_eq_some_iff.mp hg).1
  have hd : dn.drop i = g :: dn.drop (i + 1) := by rw [List.drop_eq_getElem_cons hi]; congr 1; exact (List.getElem?_eq_some_iff.mp hg).2
  have he := G.eq
  rw [hd] at he
  cases hn : (nms needs).length - i with
  | zero => rw [hn] at he; simp [roundsFrom] at he
  | succ n =>
    rw [hn] at he
    unfold roundsFrom at he
    by_cases hgn : gone needs (nms needs) left = []
    · rw [if_pos hgn] at he; simp at he
    · rw [if_neg hgn] at he
      simp only [Prod.mk.injEq, List.cons.injEq] at he
      obtain ⟨⟨h1, h2⟩, h3⟩ := he
      have hlt := later_lt K G.nodup hgn
      have hle := G.le
      refine ⟨h1.symm, ⟨by omega, (nodup_nms needs).sublist List.filter_sublist, ?_⟩⟩
      rw [show (nms needs).length - (i + 1) = n by omega]
      exact Prod.ext h2 h3
theorem GInv.last (G : GInv needs left₀ dn dn.length left) : gone needs (nms needs) left = [] := by
  have he := G.eq
  rw [List.drop_length] at he
  cases hn : (nms needs).length - dn.length with
  | zero =>
    have := G.le
    have h0 : left.length = 0 := by omega
    rw [List.length_eq_zero_iff.mp h0]; rfl
  | succ n =>
    rw [hn] at he
    unfold roundsFrom at he
    by_cases hgn : gone needs (nms needs) left = []
    · exact hgn
    · rw [if_neg hgn] at he; simp at he
end

end
section
open PySem PySem.W PyProof.Rows
set_option maxRecDepth 100000
section
variable {w : World} {l l' : List (Addr × Obj)} {σ σd d : Addr} {nds : List NA} {np : Str → Int} {sc : Str → List Str} {rv : Value} {npo nfi : Int} {rest : List (Addr × Obj)}
theorem SR.up (R : SR w l σ σd d nds np sc rv npo nfi rest) (h : ∀ p ∈ l, p ∈ l') : SR w l' σ σd d nds np sc rv npo nfi rest :=
  ⟨R.S.keep (A := []) (fun p hp _ => h p hp) (fun e => nomatch e) (fun e => nomatch e) (fun e => nomatch e) (fun _ _ => ⟨fun e => (nomatch e), fun e => (nomatch e), fun e => (nomatch e)⟩), fun p hp => h p (R.sub p hp), R.off⟩
theorem SR.consC {a : Addr} {o : Obj} (R : SR w l σ σd d nds np sc rv npo nfi rest) (hnd : (l.map (·.1)).Nodup) (hm : (a, o) ∈ l) (h1 : o.cls ≠ .ref 144) (h2 : o.cls ≠ .type "dict") (h3 : o.cls ≠ .ref 47) (h4 : o.cls ≠ .type "list") : SR w l σ σd d nds np sc rv npo nfi ((a, o) :: rest) := by
  refine ⟨R.S, fun p hp => ?_, fun p hp => ?_⟩
  · rcases List.mem_cons.mp hp with rfl | hp
    · exact hm
    · exact R.sub p hp
  · rcases List.mem_cons.mp hp with rfl | hp
    · obtain ⟨od, hdd, hod⟩ := R.S.n2i
      obtain ⟨e1, e2, e3, e4, k1, k2, k3, k4, t3, t4, hsd⟩ := R.S.dict
      refine ⟨ne_of_cls hnd hm R.S.inst h1, ne_of_cls hnd hm hsd h2, ne_of_cls hnd hm hdd (by rw [dict_cls hod]; exact h2), fun x hx => ?_⟩
      obtain ⟨_, _, i1⟩ := R.S.info x hx
      obtain ⟨_, _, _, i2⟩ := R.S.sl x hx
      exact ⟨ne_of_cls hnd hm i1 h3, ne_of_cls hnd hm (R.S.idt x hx) h2, ne_of_cls hnd hm i2 h4⟩
    · exact R.off p hp
theorem SR.consN {a : Addr} {o : Obj} (R : SR w l σ σd d nds np sc rv npo nfi rest) (hm : (a, o) ∈ l') (hb : @LE.le Nat instLENat (bnd l) a) {rest' : List (Addr × Obj)} (R' : SR w l' σ σd d nds np sc rv npo nfi rest') : SR w l' σ σd d nds np sc rv npo nfi ((a, o) :: rest') := by
  have lt : ∀ {b : Addr} {o' : Obj}, (b, o') ∈ l → a ≠ b := fun hm => ne_of_lt' (Nat.lt_of_lt_of_le (mem_lt hm) hb)
  refine ⟨R'.S, fun p hp => ?_, fun p hp => ?_⟩
  · rcases List.mem_cons.mp hp with rfl | hp
    · exact hm
    · exact R'.sub p hp
  · rcases List.mem_cons.mp hp with rfl | hp
    · obtain ⟨od, hdd, hod⟩ := R.S.n2i
      obtain ⟨e1, e2, e3, e4, k1, k2, k3, k4, t3, t4, hsd⟩ := R.S.dict
      refine ⟨lt R.S.inst, lt hsd, lt hdd, fun x hx => ?_⟩
      obtain ⟨_, _, i1⟩ := R.S.info x hx
      obtain ⟨_, _, _, i2⟩ := R.S.sl x hx
      exact ⟨lt i1, lt (R.S.idt x hx), lt i2⟩
    · exact R'.off p hp
theorem SR.consNs (R : SR w l σ σd d nds np sc rv npo nfi rest) {rest' : List (Addr × Obj)} (R' : SR w l' σ σd d nds np sc rv npo nfi rest') : ∀ robs : List (Addr × Obj), (∀ p ∈ robs, p ∈ l' ∧ @LE.le Nat instLENat (bnd l) p.1) → SR w l' σ σd d nds np sc rv npo nfi (robs ++ rest')
  | [], _ => R'
  | (_, _) :: r, h => SR.consN R (h _ (.head _)).1 (h _ (.head _)).2 (SR.consNs R R' r fun p hp => h p (.tail _ hp))
end
theorem cut {M : Model} {A : Around} {α : Type} {m : Sem α} {E : Value → Shared → Prop} {s : Shared} {P Q : α → Shared → Prop} (h : wpAny M A m P E s) (k : ∀ a s', P a s' → Q a s') : wpAny M A m Q E s := wpAny_mono h k fun _ _ e => e
theorem cut_set {M : Model} {A : Around} {c : Sem Flow} {E : Value → Shared → Prop} {s : Shared} {Q : Flow → Shared → Prop} {h₀ : Heap} {L : Addr} {x : Str} {m : Str → Option Value} (R : Value → Heap → Prop) (_ : Fr h₀ L s.heap m)
    (h : wpAny M A c (fun f s' => f = .next ∧ ∃ h' tk' rv, s' = { s with heap := h', toks := tk' } ∧ Fr h₀ L h' (fun y => if y = x then some rv else m y) ∧ R rv h') E s)
    (k : ∀ h' tk' rv, Fr h₀ L h' (fun y => if y = x then some rv else m y) → R rv h' → Q .next { s with heap := h', toks := tk' }) : wpAny M A c Q E s :=
  cut h fun _ _ ⟨e, h', tk', rv, es, F, r⟩ => by rw [e, es]; exact k h' tk' rv F r
theorem cut_next {M : Model} {A : Around} {c : Sem Flow} {E : Value → Shared → Prop} {s : Shared} {Q : Flow → Shared → Prop} {h₀ : Heap} {L : Addr} {m : Str → Option Value} (R : Heap → Prop) (_ : Fr h₀ L s.heap m)
    (h : wpAny M A c (fun f s' => f = .next ∧ ∃ h' tk', s' = { s with heap := h', toks := tk' } ∧ Fr h₀ L h' m ∧ R h') E s)
    (k : ∀ h' tk', Fr h₀ L h' m → R h' → Q .next { s with heap := h', toks := tk' }) : wpAny M A c Q E s :=
  cut h fun _ _ ⟨e, h', tk', es, F, r⟩ => by rw [e, es]; exact k h' tk' F r

end
section
open PySem PySem.W PyProof.Rows PyProof.Rows.TI
set_option maxRecDepth 100000
set_option maxHeartbeats 8000000
section
variable {w : World} {s₀ : Shared} {mg mb : Str → Option Value} {dp un : Nat} {gd : Option (List Code)} {cn : Str} {cs : Scope} {a : Addr} {ccd : Value} {cl : List (Str × Addr)} {A₀ : Around} {base h₀ : Heap} {L : Addr} {m : Str → Option Value} {news : List (Addr × Obj)} {s : Shared} {Q E : Value → Shared → Prop}
theorem sameUp_nil {frs : List (Addr × Obj)} (h : SameUp [] frs) : frs = [] := by
  cases frs with
  | nil => rfl
  | cons p r => exact h.elim
theorem toldAny (B : Below A₀ base [] h₀) (F : Fr h₀ L s.heap m) (X : (hd.heap_1 w.params).In h₀) (N : News h₀ L s.heap news) (T : Top hd.view_1 (looseW hd.view_1 [Str.ofString "_NodeInfo"]) (ExcName.means s₀.heap) mg mb h₀) (hk : cs.kind = .function) (hnd : (news.map (·.1)).Nodup)
    {pv : Value} {name : Option Str} {o : Addr} {n' : Nat} {lv' ev' : Value} {x' : Str} {y' : Option Str}
    (hP : PairIs news pv name) (ho : (o, ({ cls := .type "tuple", data := .seq #[lv', ev'] n' } : Obj)) ∈ news) (hl' : LangIs lv' x') (he' : EncIs ev' y') (hx' : x'.length ≤ 100) (hy' : ∀ z, y' = some z → z.length ≤ 100) (hd : dp + 80 < recursionLimit) (hu : un + 200 < cLine)
    (retS : ∀ x, name = some x → ∀ h' tk' D t1 t2, Fr h₀ L h' m → News h₀ L h' ((D, ({ cls := .type "tuple", data := .seq #[.str x t1, .str (nm x' y') t2] } : Obj)) :: news) → bnd news ≤ D → Q (.ref D) { s with heap := h', toks := tk' })
    (retN : name = none → ∀ h' tk', Fr h₀ L h' m → News h₀ L h' news → Q .none { s with heap := h', toks := tk' })
    : wpAny (model (PySem.Challenge.rw_mr0291_01.row.prog) w) (ktrTop dp un gd cn cs L a ccd cl []) (call (.ref 162) [pv, .ref o]) Q E s := by
  have N0 : News h₀ L s.heap (news ++ []) := by simpa using N
  have hnd0 : ((news ++ ([] : List (Addr × Obj))).map (·.1)).Nodup := by simpa using hnd
  cases hP with
  | tup hp hl he hx hy => exact toldT (s₀ := s₀) (t := 0) B F X N T hk hnd hp hl he hx hy ho hl' he' hx' hy' hd hu (retS _ rfl)
  | lst hp hl he hx hy => exact toldL (s₀ := s₀) (t := 0) B F X N T hk hnd hp hl he hx hy ho hl' he' hx' hy' hd hu (retS _ rfl)
  | text => exact toldS (s₀ := s₀) (p := 0) (n := 0) (lv := .none) (ev := .none) (x := Str.ofString "") (y := none) B F X N T hk hnd ho hl' he' hx' hy' hd hu (retS _ rfl)
  | three hp =>
    refine' told3 (s₀ := s₀) (outer := []) (frs := []) (x := Str.ofString "") (k1 := 0) (k2 := 0) F X N0 T trivial hk hnd0 hp (by decide +kernel) hd hu ?_
    intro h' tk' frs' hs _ F' N' _
    obtain rfl := sameUp_nil hs
    exact retN rfl h' tk' F' (by simpa using N')
  | one hp =>
    refine' told1 (s₀ := s₀) (outer := []) (frs := []) (x := Str.ofString "") (k1 := 0) (k2 := 0) F X N0 T trivial hk hnd0 hp (by decide +kernel) hd hu ?_
    intro h' tk' frs' hs _ F' N' _
    obtain rfl := sameUp_nil hs
    exact retN rfl h' tk' F' (by simpa using N')
  | num hp hl hx =>
    rcases hl with ⟨rfl, _⟩ | ⟨t, rfl⟩
    · refine' told7n (s₀ := s₀) (outer := []) (frs := []) (x := Str.ofString "") (k1 := 0) F X N0 T trivial hk hnd0 hp (by decide +kernel) hd hu ?_
      intro h' tk' frs' hs _ F' N' _
      obtain rfl := sameUp_nil hs
      exact retN rfl h' tk' F' (by simpa using N')
    · refine' told7 (s₀ := s₀) (outer := []) (frs := []) F X N0 T trivial hk hnd0 hp hx hd hu ?_
      intro h' tk' frs' hs _ F' N' _
      obtain rfl := sameUp_nil hs
      exact retN rfl h' tk' F' (by simpa using N')
end

end
section
open PySem PySem.W PyProof.Rows PySem.Spec PySem.Calls
set_option maxRecDepth 100000
section
variable {P : Program} {w : World} {A : Around} {E : Value → Shared → Prop} {s : Shared} {h₀ : Heap} {L l : Addr} {m : Str → Option Value} {news : List (Addr × Obj)} {vs : List Value} {ss : List Str} {n : Nat} {Q : Value → Shared → Prop}
theorem sorted_tup (F : Fr h₀ L s.heap m) (N : News h₀ L s.heap news) (hl : (l, ({ cls := .type "tuple", data := .seq vs.toArray n } : Obj)) ∈ news) (hS : StrsAre vs ss) (h64 : vs.length < 64)
    (h : ∀ D h' vs' ss' e, Fr h₀ L h' m → News h₀ L h' ((D, W.listOf (List.toArray vs') e) :: news) → @LE.le Nat instLENat (bnd news) D → StrsAre vs' ss' → ss'.Perm ss → sortedS ss' = true → Q (.ref D) { s with heap := h' }) :
    wpAny (model P w) A (call (.builtin "sorted") [.ref l]) Q E s := by
  refine Calls.call_function_entry kind_sorted plain_sorted entry_sorted (args_sorted1 _) ?_
  unfold Builtin.«sorted»
  refine wpAny_bind (m := checkCount "sorted" 1 1 _) (wpAny_pure ?_)
  refine wpAny_bind (wpAny_collect_seq (T := "tuple") l (.inr rfl) (N _ hl).1 rfl rfl (fun h1 k1 => ?_) (by rw [sizeLine_eq, List.size_toArray]; omega))
  refine wpAny_bind (wpAny_newList ?_)
  have F1 := F.keeps k1
  have N1 := N.grown k1
  have hoL : (h1.push (seqObj "list" vs.toArray 0)).get? h1.objs.size = some (seqObj "list" vs.toArray 0) := Heap.get?_push_size _ rfl
  show wpAny _ _ _ _ _ { s with heap := h1.push (seqObj "list" vs.toArray 0) }
  refine wpAny_bind (wpAny_holding (wpAny_call_entry slot_list_sort ⟨_, hoL, rfl⟩ entry_list_sort (list_sort_treeK strKind_oneLt hoL hS.keysOf (fun v₁ v₂ rest e => keyKind_strs (by rw [← e]; exact hS)) h64 fun st' a1 a2 => ⟨_, rfl, ?_⟩) (args_list_sort _)))
  obtain ⟨ss', b1, b2, b3⟩ := sorted_out_str hS a1 a2
  obtain ⟨e, he⟩ := sortedHeap_at (out := (arrOf st').map (·.2)) hoL
  have kk : ∀ b o, h1.get? b = some o → (sortedHeap (h1.push (seqObj "list" vs.toArray 0)) h1.objs.size vs ((arrOf st').map (·.2))).get? b = some o := fun b o eb => by
    have hb := Heap.lt_size eb
    rw [sortedHeap_old (Nat.ne_of_lt hb) (by rw [size_push']; exact Nat.lt_succ_of_lt hb)]
    exact Heap.get?_push_of_some _ eb
  exact wpAny_pure ⟨_, rfl, h h1.objs.size _ ((arrOf st').map (·.2)).toList ss' e (F1.kept kk) (N1.kept_cons F1 kk (Nat.le_refl _) he) (bnd_news N1) b1 b2 b3⟩
end

end
section
open PySem PySem.W PyProof.Rows PySem.Spec PySem.Calls PySem.SeqAt
set_option maxRecDepth 100000
section
variable {M : Model} {A : Around} {E : Value → Shared → Prop} {s : Shared} {env : Env} {K : Frag}
theorem call_methodStar {o : Expr} {name : Str} {apos pos : Pos} {args : List Expr} {Q : Value → Shared → Prop}
    (h : wpAny M A (eval o env) (fun ov s₁ => wpAny M A (getAttr ov name true) (fun f s₂ => wpAny M A (callWith pos f [] (backTo pos (starEach args env)) []) Q E s₂) E s₁) E s)
    (he : eval (.Call (.Attribute o name apos) args [] pos) env = (do
      let ov ← eval o env
      standAt apos.atName
      let fx ← holding [ov] (do pure (← getAttr ov name true, []))
      callWith pos fx.1 fx.2 (backTo pos (starEach args env)) []) := by rfl) :
    wpAny M A (eval (.Call (.Attribute o name apos) args [] pos) env) Q E s := by
  rw [he]
  refine wpAny_bind (wpAny_mono h (fun ov s₁ h₁ => wpAny_bind (wpAny_standAt (wpAny_bind (wpAny_holding (wpAny_bind (wpAny_mono h₁ (fun fx s₂ h₂ => wpAny_pure ?_) fun _ _ x => x)))))) fun _ _ x => x)
  exact h₂
theorem callWith_starM {h₀ : Heap} {L : Addr} {news : List (Addr × Obj)} {q g : Addr} {self : Value} {e : Expr} {pos p : Pos} {Q : Value → Shared → Prop} (_X : K.In h₀) (_N : News h₀ L s.heap news) (_q : (q, methodObj (.ref g) self) ∈ news) (hf : fnIn K g = true)
    (h : wpAny M A (eval e env) (fun v s₁ => StarOf M A E v (fun vs s₂ => MethP K q g self s₂.heap ∧ wpAny M A (call (.ref q) ([] ++ vs)) Q E s₂) s₁) E s)
    (he : starEach [.Starred e p] env = [(true, eval e env)] := by rfl) :
    wpAny M A (callWith pos (.ref q) [] (backTo pos (starEach [.Starred e p] env)) []) Q E s := by
  rw [he]
  exact ks_call rfl (keeps_M hf) (ks_lone h)
end
section
variable {P : Program} {w : World} {A : Around} {E : Value → Shared → Prop} {s : Shared} {h₀ : Heap} {L a b : Addr} {news : List (Addr × Obj)} {Q : Value → Shared → Prop}
theorem eq_nils {n n' : Nat} (hu : A.units < cLine) (N : News h₀ L s.heap news) (ha : (a, ({ cls := .type "tuple", data := .seq #[] n } : Obj)) ∈ news) (hb : (b, ({ cls := .type "tuple", data := .seq #[] n' } : Obj)) ∈ news) (hQ : Q (.bool true) s) : wpAny (model P w) A (compareOp .Eq (.ref a) (.ref b)) Q E s :=
  eq_tupleAt (e := fun _ => true) ⟨_, (N _ ha).1, rfl, _, rfl⟩ ⟨_, (N _ hb).1, rfl, _, rfl⟩ hu (fun j h1 => absurd h1 (Nat.not_lt_zero _)) hQ
end

end
section
theorem offL0 : True := by
  w_top off
  trivial
open PySem PySem.W PyProof.Rows
set_option maxRecDepth 100000
set_option maxHeartbeats 8000000
set_option maxHeartbeats 16000000 in
set_option pp.maxSteps 3000 in
theorem law0 : PySem.Challenge.rw_mr0291_01.Holds := by
  refine law_of (hd ?_)
  k_fill
  intro w s₀ s₁ mg mb G Y fa o pm cd doc dV kV ho hd hcd hD hmg hg args vals as hpre hlay hrd hwl hlo
  have KX := kIn_of Y
  have X := (Ground.X G).1
  have V := (Ground.X G).2
  refine Ground.open G ?_
  intro T B D TE TW
  try (refine guard_noD D (by decide +kernel) ?_; clear D)
  have TA := at_of_top T
  try (obtain ⟨_, _, he, B0⟩ := based_of_top T rfl hmg ho hd; have he' : cd = _ := he; subst he'; clear he)
  clear hmg
  wrow_args hpre hlay hrd hwl hlo
  all_goals (
    first | refine callC_kw (enter_call ?_) | refine enter_call ?_ | refine callC_kw (enter_callW ?_) | refine enter_callW ?_ | w_how
    w_top on
    try refine codeAny_mono ?_ (fun _ _ g => GoodW.toG g)
    have K0 := below_caller (Top.heap T)
    w_call any ho hd hcd hD T F0
    clear hd TA
    k_drop
    skip)
  all_goals try k_fold
  rename_i wc wd ns hs hlay0 hL1 hr1 hl2 we wf sc xs wg hLst ra w1 r0 hI hr hc1 hc2 h0 N0
  have hns : ns.length ≤ 63 := by omega
  clear G Y X V B TE TW hs hlay0 hL1 hr1 hl2 ra w1 r0 hr hc1 hc2
  repeat' ((fail_if_success (with_reducible show wpAny _ _ (eval (Expr.ListComp _ _ _ _) _) _ _ _)); (first | (k_unfold; (try dsimp only)) | (k_end; wrow_close) | walk1 | (dsimp only; walk1) | (leave1; try dsimp only)))
  rename Fr _ _ _ _ => F1
  rename News _ _ _ _ => N1
  refine sealG fun GG1 hGG1 => ?_
  obtain ⟨fx, hfi, N1⟩ : ∃ fx : List Value, IntsAre fx [376, 27, 177, 21, 1226, 4, 1096, 63, 14, 2272] ∧ News s₁.heap s₁.heap.objs.size _ [(_, W.listOf fx.toArray 0)] := by
    refine ⟨[_, _, _, _, _, _, _, _, _, _], ?_, N1⟩
    exact .cons _ _ (.cons _ _ (.cons _ _ (.cons _ _ (.cons _ _ (.cons _ _ (.cons _ _ (.cons _ _ (.cons _ _ (.cons _ _ .nil)))))))))
  refine hGG1 ?_
  k_dflt (refine wpAny_ListComp_free (cl := []) (fun _ => true) (fun v y => ∃ n t t', v = .int n t ∧ y = .int (Int.fmod n 1000000) t') (by with_unfolding_all rfl) (by decide) rfl (by decide) rfl ?_)
  repeat' ((fail_if_success (with_reducible show wpAny _ _ (subscriptTail _ _ _ _) _ _ _)); (first | (k_unfold; (try dsimp only)) | (k_end; wrow_close) | walk1 | (dsimp only; walk1) | (leave1; try dsimp only)))
  k_dflt (refine kms_slice_lit (by k_asm) N1 (hLst.at fun o e => F1.keep _ o e) (by kmk_part) (by kmk_part) (zs := xs.take 63) (pick_upto xs 63) ?_ (by with_unfolding_all rfl) (by kmk_pure) (by rw [sizeLine_eq, List.size_toArray, ints_len hI]; omega))
  intro D2 h2 F2 N2 b2
  have nd2 := nodup_grow N2 (nodup_one N1) b2
  repeat' ((fail_if_success (with_reducible show wpAny _ _ (pyIter _) _ _ _)); (first | (k_unfold; (try dsimp only)) | (k_end; wrow_close) | walk1 | (dsimp only; walk1) | (leave1; try dsimp only)))
  k_dflt (refine wpAny_pyIter_list (News.isList N2 (.head _)) ?_)
  have hlta := Heap.lt_size (N2 _ (.head _)).1
  refine ⟨_, _, _, _, _, _, rfl, Walks.list rfl _ D2 (Nat.ne_of_lt hlta) (xs.take 63).toArray, by rw [sizeLine_eq, List.size_toArray, List.length_take]; omega, ⟨⟨_, Heap.get?_push_size _ rfl, rfl, rfl⟩, ⟨_, Heap.get?_push_of_some _ (N2 _ (.head _)).1, rfl, _, rfl⟩⟩, ?small, ⟨?tests, ?elt⟩, ?fin⟩
  case small =>
    intro b hb
    rcases List.mem_cons.mp hb with rfl | hb
    · show _ < (h2.push _).objs.size
      rw [Heap.size_push]; exact Nat.lt_succ_self _
    · show _ < (h2.push _).objs.size
      rw [Heap.size_push, List.mem_singleton.mp hb]; exact Nat.lt_succ_of_lt hlta
  case tests =>
    intro C j v s₃ m₃ E' hC hP hns hmx hkp htk
    exact wpAny_pure ⟨rfl, _, _, rfl, fun _ _ e => e⟩
  case elt =>
    intro C j v s₃ m₃ E' hC hP hpv hns hmx hkp htk
    have up : ∀ b o, h2.get? b = some o → s₃.heap.get? b = some o := fun b o e => hkp b o (fun hm => Nat.lt_irrefl _ (by have := Heap.lt_size e; rw [List.mem_singleton.mp hm] at this; exact this)) (Heap.get?_push_of_some _ e)
    have F3 := F2.keeps up
    have N3 := N2.grown up
    refine sealG fun GG2 hGG2 => ?_
    obtain ⟨hp3, g3, d3, tk3, os3⟩ := s₃
    clear hkp up
    obtain ⟨n, t, hn, rfl⟩ := ints_get (ints_take hI 63) (by simpa using hP)
    refine hGG2 ?_
    k_dflt (refine wpAny_BinOp ?_)
    k_dflt (refine ldVarK hns hmx ?_ rfl rfl (by decide))
    k_dflt (refine wpAny_BinOp ?_)
    repeat' ((fail_if_success (with_reducible show wpAny _ _ (binaryOp _ _ _) _ _ _)); (first | (k_unfold; (try dsimp only)) | (k_end; wrow_close) | walk1 | (dsimp only; walk1) | (leave1; try dsimp only)))
    k_dflt (refine pow_int_small (by decide) (by decide) (by decide) ?_)
    k_dflt (refine mod_int' (by decide) ?_)
    exact ⟨⟨n, _, _, rfl, rfl⟩, _, _, rfl, fun _ _ e => e⟩
  case fin =>
    intro D4 h4 tk4 ys vs hD hl4 hpl4 hvl hP hpair hkeep
    have up : ∀ b o, h2.get? b = some o → h4.get? b = some o := fun b o e => hkeep b o (fun hm => Nat.lt_irrefl _ (by have := Heap.lt_size e; rw [List.mem_singleton.mp hm] at this; exact this)) (Heap.get?_push_of_some _ e)
    refine sealG fun GG3 hGG3 => ?_
    obtain rfl := list_of_items (items := (xs.take 63).toArray) hvl hP
    obtain ⟨us4, rfl⟩ : ∃ us : List Value, ys = us.toArray := ⟨ys.toList, by simp⟩
    rw [List.filter_eq_self.mpr (fun _ _ => rfl)] at hpair
    have hys : IntsAre us4 ((ns.take 63).map (Int.fmod · 1000000)) := paired_fmod (ints_take hI 63) hpair
    obtain ⟨ep4, F4, N4, nd4, far4⟩ := comp_news F2 N2 nd2 hD hpl4 up
    obtain ⟨nfix, hnfix⟩ : ∃ l : List Int, l = [376, 27, 177, 21, 1226, 4, 1096, 63, 14, 2272] := ⟨_, rfl⟩
    refine hGG3 ?_
    rw [← hnfix] at hfi
    repeat' ((fail_if_success (with_reducible show wpAny _ _ (binaryOp _ _ _) _ _ _)); (first | (k_unfold; (try dsimp only)) | (k_end; wrow_close) | walk1 | (dsimp only; walk1) | (leave1; try dsimp only)))
    k_dflt (refine add_lists_ints (vs := us4) (ws := fx) (by k_asm) N4 (News.isList N4 (.head _)) (News.isList N4 (.tail _ (.tail _ (.head _)))) hys hfi ?_ (by rw [hnfix, sizeLine_eq]; simp only [List.length_map, List.length_take, List.length_cons, List.length_nil]; omega))
    intro h5 F5 N5 hI5
    have hsz5 := bnd_news N4
    have hsz5' : ({ s₁ with heap := h4, toks := tk4 } : Shared).heap.objs.size = h4.objs.size := rfl
    generalize hD5 : h4.objs.size = D5 at N5 hsz5
    have nd5 := nodup_cons_of (p := (D5, ({ cls := .type "list", data := .seq (us4 ++ fx).toArray } : Obj))) nd4 hsz5
    repeat' ((fail_if_success (with_reducible show wpAny _ _ (subscriptTail _ _ _ _) _ _ _)); (first | (k_unfold; (try dsimp only)) | (k_end; wrow_close) | walk1 | (dsimp only; walk1) | (leave1; try dsimp only)))
    k_dflt (refine kba_turn (value' := PySem.Expr.Name (PySem.Str.ofString "_") ⟨0, 0, 0, 0⟩) (fun _ => rfl) ?_)
    k_dflt (refine kms_slice_lit F5 N5 (News.isList N5 (.head _)) (by kmk_part) (by kmk_part) (zs := (us4 ++ fx).take 10) (pick_upto _ 10) ?_ (by with_unfolding_all rfl) (by kmk_pure) (by rw [sizeLine_eq, List.size_toArray, ints_len hI5, hnfix]; simp only [List.length_append, List.length_map, List.length_take, List.length_cons, List.length_nil]; omega))
    intro D6 h6 F6 N6 b6
    have nd6 := nodup_grow N6 nd5 b6
    have hIf := ints_take hI5 10
    refine sealG fun GG4 hGG4 => ?_
    obtain ⟨hf10, hfb⟩ := figs_ok (ns := ns) hnfix
    obtain ⟨figs, hfigs⟩ : ∃ l, l = ((ns.take 63).map (Int.fmod · 1000000) ++ nfix).take 10 := ⟨_, rfl⟩
    rw [← hfigs] at hIf hf10 hfb
    obtain ⟨vf, hvf⟩ : ∃ l, l = (us4 ++ fx).take 10 := ⟨_, rfl⟩
    rw [← hvf] at hIf N6 nd6
    obtain ⟨led6, hled6, N6⟩ : ∃ led, led = _ ∧ News s₁.heap s₁.heap.objs.size h6 led := ⟨_, rfl, N6⟩
    refine hGG4 ?_
    rw [← hled6] at nd6
    have hD6 : (D6, W.listOf vf.toArray 0) ∈ led6 := by rw [hled6]; exact .head _
    clear hled6 b6 N5 F5 N4 F4 hfi hys hI5 nd5 nd4 hsz5 hsz5' hvf hfigs hnfix hpl4 hl4 hkeep hvl hP hpair up hlta far4 nd2 N2 F2 b2
    repeat' ((fail_if_success (with_reducible show wpAny _ _ (exec (Stmt.For _ _ _ _ _) _) _ _ _)); (first | (k_unfold; (try dsimp only)) | (k_end; wrow_close) | walk1 | (dsimp only; walk1) | (leave1; try dsimp only)))
    rename_i hA σ σd hB FA NA bA bB gA LA hC BA XA TA tkA d hE od lod hsd fsd hid fid bC hF hG hH hJ FB NB TcB kXB hK nl hL2 bD h7 F7 N7
    refine sealG fun GG5 hGG5 => ?_
    obtain ⟨led7, hled7, N7⟩ : ∃ led, led = _ ∧ News s₁.heap s₁.heap.objs.size h7 led := ⟨_, rfl, N7⟩
    have nd7 : (led7.map (·.1)).Nodup := by
      rw [hled7]
      repeat (refine nodup_cons_of ?_ (by simp only [bnd_cons, adr]; (repeat' (with_reducible refine Nat.max_le.mpr ⟨?_, ?_⟩)) <;> omega))
      exact nd6
    have mσ : (σ, instObj 144 σd) ∈ led7 := (by rw [hled7]; repeat (first | exact List.Mem.head _ | apply List.Mem.tail))
    obtain ⟨z1, z2, z3, z4, z5, z6, z7, z8, z9, z10, mdi⟩ : ∃ e1 e2 e3 e4 k1 k2 k3 k4 t3 t4, (σd, sortDict e1 e2 e3 e4 k1 k2 k3 k4 t3 t4 d .none 0 0) ∈ led7 := ⟨_, _, _, _, _, _, _, _, _, _, (by rw [hled7]; repeat (first | exact List.Mem.head _ | apply List.Mem.tail))⟩
    refine hGG5 ?_
    have md : (d, od) ∈ led7 := (by rw [hled7]; repeat (first | exact List.Mem.head _ | apply List.Mem.tail))
    have mnl : (nl, W.listOf [].toArray 0) ∈ led7 := (by rw [hled7]; repeat (first | exact List.Mem.head _ | apply List.Mem.tail))
    have mD6 : (D6, W.listOf vf.toArray 0) ∈ led7 := by rw [hled7]; repeat (first | exact hD6 | apply List.Mem.tail)
    have hb6 := mem_lt hD6
    clear hled7
    have S0 : Sorter w led7 σ σd d [] (npOf []) (scOf []) .none 0 0 := ⟨mσ, ⟨z1, z2, z3, z4, z5, z6, z7, z8, z9, z10, mdi⟩, ⟨od, md, hsd⟩, lod, fun x hx => (nomatch hx), fun x hx => (nomatch hx), fun x hx => (nomatch hx), by show @Ne Nat σd d; omega, fun x hx => (nomatch hx), List.nodup_nil⟩
    have R0 : SR w led7 σ σd d [] (npOf []) (scOf []) .none 0 0 [(nl, W.listOf [].toArray 0), (D6, W.listOf vf.toArray 0)] := ⟨S0, fun p hp => by
        rcases List.mem_cons.mp hp with rfl | hp
        · exact mnl
        · rw [List.mem_singleton.mp hp]; exact mD6, fun p hp => by
        rcases List.mem_cons.mp hp with rfl | hp
        · exact ⟨by show @Ne Nat nl σ; omega, by show @Ne Nat nl σd; omega, by show @Ne Nat nl d; omega, fun x hx => (nomatch hx)⟩
        · rw [List.mem_singleton.mp hp]
          exact ⟨by show @Ne Nat D6 σ; omega, by show @Ne Nat D6 σd; omega, by show @Ne Nat D6 d; omega, fun x hx => (nomatch hx)⟩⟩
    refine for_led s₁.heap rfl rfl ?_
    repeat' ((fail_if_success (with_reducible show wpAny _ _ (pyIter _) _ _ _)); (first | (k_unfold; (try dsimp only)) | (k_end; wrow_close) | walk1 | (dsimp only; walk1) | (leave1; try dsimp only)))
    k_dflt refine forAt_list rfl F7 N7 nd7 mD6 (fun i m₁ led₁ => SameL [Str.ofString "figure", Str.ofString "pair", Str.ofString "other", Str.ofString "due", Str.ofString "told"] m₁ _ ∧ ∃ nds ws needs epn dues, SR w led₁ σ σd d nds (npOf needs) (scOf needs) .none 0 0 ((nl, W.listOf (List.toArray ws) epn) :: (D6, W.listOf vf.toArray 0) :: dues) ∧ (∀ p ∈ dues, p.1 ≠ nl) ∧ NeedsAre dues ws needs ∧ needs.length ≤ i ∧ nds.map (·.name) = namesOf needs)
      ⟨SameL.refl _ _, [], [], [], 0, [], R0, fun p hp => (nomatch hp), .nil, Nat.le_refl _, rfl⟩ ?turn1 ?done1
    case turn1 =>
      intro I i v m₁ led₁ h8 tk8 io hv hJ hD8 F8 N8 nd8
      refine sealQ ?_; intro qT
      refine sealG fun GG6 hGG6 => ?_
      obtain ⟨hm₁, nds, ws, needs, epn, dues, R8, hdn, hws, hnl, hnames⟩ := hJ
      replace F8 := fr_sameL1 F8 hm₁
      simp only [canon, List.foldr] at F8
      obtain ⟨f, tf, hf, rfl⟩ := ints_get hIf (by simpa using hv)
      refine hGG6 ?_
      have hfb' := hfb f (List.mem_of_getElem? hf)
      have hil : i < 10 := by have := (List.getElem?_eq_some_iff.mp hf).1; omega
      have R9 := R8.consI (I := I) (io := io) (List.nodup_cons.mp nd8).1
      repeat' ((fail_if_success (with_reducible show wpAny _ _ (PySem.call (Value.ref 155) _ _) _ _ _)); (first | (k_unfold; (try dsimp only)) | (k_end; wrow_close) | walk1 | (dsimp only; walk1) | (leave1; try dsimp only)))
      show wpAny _ _ (PySem.call (.ref 155) [.int f tf]) _ _ _
      k_dflt (refine' needB (s₀ := s₀) K0 F8 KX N8 T rfl nd8 hfb'.1 hfb'.2 ?khd ?khu ?_; (case khd => ktr_room); (case khu => ktr_units))
      intro h9 tk9 Tt pv dv o9 x' y' lv' ev' n' name led9 F9 N9 nd9 up9 mT9 fr9 mo9 hLg' hEc' hxl hyl hP9 hDu9
      have R10 := R9.up up9
      repeat' ((fail_if_success (with_reducible show wpAny _ _ (PySem.call (Value.ref 162) _ _) _ _ _)); (first | (k_unfold; (try dsimp only)) | (k_end; wrow_close) | walk1 | (dsimp only; walk1) | (leave1; try dsimp only)))
      show wpAny _ _ (PySem.call (.ref 162) [pv, .ref o9]) _ _ _
      k_dflt (refine' toldAny (s₀ := s₀) K0 ?kF KX ?kN T rfl nd9 hP9 mo9 hLg' hEc' hxl hyl ?khd ?khu ?retS ?retN; (case kF => k_asm); (case kN => k_asm); (case khd => ktr_room); (case khu => ktr_units))
      case retS =>
        intro x hx h10 tk10 D10 t1 t2 F10 N10 b10
        refine sealG fun GG7 hGG7 => ?_
        subst hx
        refine hGG7 ?_
        cases hDu9 with
        | @some dd nn _ t3 t4 hdue hddb =>
          have R11 := (R10.up (l' := (D10, ({ cls := .type "tuple", data := .seq #[.str x t1, .str (nm x' y') t2] } : Obj)) :: led9) (fun p hp => .tail _ hp)).consC (nodup_cons_of nd9 b10) (List.mem_cons_of_mem _ hdue) (by simp) (by simp) (by simp) (by simp)
          have nd10 := nodup_cons_of (p := (D10, ({ cls := .type "tuple", data := .seq #[.str x t1, .str (nm x' y') t2] } : Obj))) nd9 b10
          repeat' ((fail_if_success (with_reducible show wpAny _ _ (compareOp CmpOp.NotEq _ _) _ _ _)); (first | (k_unfold; (try dsimp only)) | (k_end; wrow_close) | walk1 | (dsimp only; walk1) | (leave1; try dsimp only)))
          k_dflt (refine ne_tups (by units_room) (by k_asm) (.head _) (.tail _ hdue) ?_)
          rw [show (!(x == x && (nm x' y' == nm x' y'))) = false by simp]
          have hiσ := R11.S.inst
          refine sealG fun GG8 hGG8 => ?_
          obtain ⟨y1, y2, y3, y4, y5, y6, y7, y8, y9, y10, hdσ⟩ := R11.S.dict
          refine hGG8 ?_
          repeat' ((fail_if_success (with_reducible show wpAny _ _ (subscriptTail _ _ _ _) _ _ _)); (first | (k_unfold; (try dsimp only)) | (k_end; wrow_close) | walk1 | (dsimp only; walk1) | (leave1; try dsimp only)))
          k_dflt (refine kim_tup (j := 0) (x := .str x t1) (l := [.str x t1, .str (nm x' y') t2]) (by k_asm) (List.Mem.head _) rfl rfl (by decide) (by decide) rfl rfl ?_)
          repeat' ((fail_if_success (with_reducible show wpAny _ _ (subscriptTail _ _ _ _) _ _ _)); (first | (k_unfold; (try dsimp only)) | (k_end; wrow_close) | walk1 | (dsimp only; walk1) | (leave1; try dsimp only)))
          k_dflt (refine kim_tup (j := 1) (x := .str (nm x' y') t2) (l := [.str x t1, .str (nm x' y') t2]) (by k_asm) (List.Mem.head _) rfl rfl (by decide) (by decide) rfl rfl ?_)
          repeat' ((fail_if_success (with_reducible show wpAny _ _ (PySem.call (Value.ref 94) _ _) _ _ _)); (first | (k_unfold; (try dsimp only)) | (k_end; wrow_close) | walk1 | (dsimp only; walk1) | (leave1; try dsimp only)))
          have hnkl : nds.length ≤ 800 := by
            have h1 := namesOf_len needs
            rw [← hnames, List.length_map] at h1
            omega
          have hscl : ∀ z, (scOf needs z).length ≤ 800 := fun z => by have := scOf_len needs z; omega
          have hz : ∀ z, (∀ q ∈ nds, q.name ≠ z) → npOf needs z = 0 ∧ scOf needs z = [] := fun z hq => np_none (by rw [← hnames]; intro hm; obtain ⟨q, h1, h2⟩ := List.mem_map.mp hm; exact hq q h1 h2)
          k_dflt (refine' add1 (s₀ := s₀) K0 ?kF KX ?kN T rfl nd10 R11 hnkl hscl hz ?khd ?khu ?_; (case kF => k_asm); (case kN => k_asm); (case khd => ktr_room); (case khu => ktr_units))
          intro h12 tk12 led12 nds12 F12 N12 nd12 R12 hn12
          rw [npOf_snoc needs x (nm x' y'), scOf_snoc] at R12
          rw [hnames, ← namesOf_snoc] at hn12
          have hnl12 := R12.sub (nl, _) (.tail _ (.tail _ (.head _)))
          repeat' ((fail_if_success (with_reducible show wpAny _ _ (PySem.call (Value.builtin "list.append") _ _) _ _ _)); (first | (k_unfold; (try dsimp only)) | (k_end; wrow_close) | walk1 | (dsimp only; walk1) | (leave1; try dsimp only)))
          have hwl : ws.toArray.size ≤ sizeLine := by
            have h1 := hws.len
            rw [sizeLine_eq, List.size_toArray]; omega
          have nd13 := nodup_putA (d := nl) (o := W.listOf (ws.toArray.push (.ref dd)) (epn + 1)) nd12
          k_dflt (refine append_K (its := ws.toArray) (by k_asm) (by k_asm) (upd_putA nd12 hnl12) ?_ hwl)
          intro h13 F13 N13
          rw [List.push_toArray] at N13 nd13
          have hnlI : @Ne Nat I nl := neI nd8 (R8.sub _ (.head _))
          have hD6I : @Ne Nat I D6 := neI nd8 (R8.sub _ (.tail _ (.head _)))
          have hIb : @LT.lt Nat instLTNat I (bnd ((I, io) :: led₁)) := mem_lt (o := io) (.head _)
          have hnlb : @LT.lt Nat instLTNat nl (bnd ((I, io) :: led₁)) := mem_lt (.tail _ (R8.sub _ (.head _)))
          have hduI : ∀ p ∈ dues, @Ne Nat p.1 I := fun p hp => Ne.symm (neI (a := p.1) (o := p.2) nd8 (R8.sub _ (.tail _ (.tail _ hp))))
          have R13 := (R12.less (rest' := (nl, W.listOf ws.toArray epn) :: (I, io) :: (D6, W.listOf vf.toArray 0) :: (dd, ({ cls := .type "tuple", data := .seq #[.str x t3, .str (nm x' y') t4] nn } : Obj)) :: dues) (fun p hp => by
            rcases List.mem_cons.mp hp with rfl | hp
            · exact .tail _ (.tail _ (.head _))
            · rcases List.mem_cons.mp hp with rfl | hp
              · exact .tail _ (.head _)
              · rcases List.mem_cons.mp hp with rfl | hp
                · exact .tail _ (.tail _ (.tail _ (.head _)))
                · rcases List.mem_cons.mp hp with rfl | hp
                  · exact .head _
                  · exact .tail _ (.tail _ (.tail _ (.tail _ hp))))).putRest (o' := W.listOf (ws ++ [Value.ref dd]).toArray (epn + 1)) (fun p hp => by
            rcases List.mem_cons.mp hp with rfl | hp
            · exact hnlI
            · rcases List.mem_cons.mp hp with rfl | hp
              · show @Ne Nat D6 nl; omega
              · rcases List.mem_cons.mp hp with rfl | hp
                · show @Ne Nat dd nl; omega
                · exact hdn p hp)
          have R14 := (R13.less (rest' := (I, io) :: (nl, W.listOf (ws ++ [Value.ref dd]).toArray (epn + 1)) :: (D6, W.listOf vf.toArray 0) :: (dd, ({ cls := .type "tuple", data := .seq #[.str x t3, .str (nm x' y') t4] nn } : Obj)) :: dues) (fun p hp => by
            rcases List.mem_cons.mp hp with rfl | hp
            · exact .tail _ (.head _)
            · rcases List.mem_cons.mp hp with rfl | hp
              · exact .head _
              · exact .tail _ (.tail _ hp))).drop (fun p hp => by
            rcases List.mem_cons.mp hp with rfl | hp
            · exact Ne.symm hnlI
            · rcases List.mem_cons.mp hp with rfl | hp
              · exact Ne.symm hD6I
              · rcases List.mem_cons.mp hp with rfl | hp
                · show @Ne Nat dd I; omega
                · exact hduI p hp)
          repeat' ((fail_if_success (with_reducible show TurnEnd _ _ _ _ _ _ _ _ _ _)); (first | (k_unfold; (try dsimp only)) | (k_end; wrow_close) | walk1 | (dsimp only; walk1) | (leave1; try dsimp only)))
          refine TurnEnd.go (by k_asm) (Mine.News.sub N13 (dropA_sub (R13.sub _ (.tail _ (.head _))))) (nodup_dropA nd13) (fun p hp => by rw [List.mem_singleton.mp hp]; exact R14.sub _ (.tail _ (.head _))) ⟨?_, nds12, ws ++ [Value.ref dd], needs ++ [(x, nm x' y')], epn + 1, (dd, ({ cls := .type "tuple", data := .seq #[.str x t3, .str (nm x' y') t4] nn } : Obj)) :: dues, R14, ?_, (hws.mono fun _ _ a o _ hm => .tail _ hm).snoc (.head _), by rw [List.length_append]; simp only [List.length_cons, List.length_nil]; omega, hn12⟩
          · repeat (first | exact SameL.refl _ _ | refine SameL.set (by repeat (first | exact List.Mem.head _ | apply List.Mem.tail)) ?_)
          · intro p hp
            rcases List.mem_cons.mp hp with rfl | hp
            · show @Ne Nat dd nl; omega
            · exact hdn p hp
      case retN =>
        intro hx h10 tk10 F10 N10
        refine sealG fun GG9 hGG9 => ?_
        subst hx
        refine hGG9 ?_
        cases hDu9
        have hnlI : @Ne Nat I nl := neI nd8 (R8.sub _ (.head _))
        have hD6I : @Ne Nat I D6 := neI nd8 (R8.sub _ (.tail _ (.head _)))
        have hduI : ∀ p ∈ dues, @Ne Nat p.1 I := fun p hp => Ne.symm (neI (a := p.1) (o := p.2) nd8 (R8.sub _ (.tail _ (.tail _ hp))))
        have R14 := R10.drop (fun p hp => by
          rcases List.mem_cons.mp hp with rfl | hp
          · exact Ne.symm hnlI
          · rcases List.mem_cons.mp hp with rfl | hp
            · exact Ne.symm hD6I
            · exact hduI p hp)
        repeat' ((fail_if_success (with_reducible show TurnEnd _ _ _ _ _ _ _ _ _ _)); (first | (k_unfold; (try dsimp only)) | (k_end; wrow_close) | walk1 | (dsimp only; walk1) | (leave1; try dsimp only)))
        rename News s₁.heap _ _ led9 => N11
        refine TurnEnd.go (by k_asm) (Mine.News.sub N11 (dropA_sub (R10.sub _ (.head _)))) (nodup_dropA nd9) (fun p hp => by rw [List.mem_singleton.mp hp]; exact R14.sub _ (.tail _ (.head _))) ⟨?_, nds, ws, needs, epn, dues, R14, hdn, hws, by omega, hnames⟩
        repeat (first | exact SameL.refl _ _ | refine SameL.set (by repeat (first | exact List.Mem.head _ | apply List.Mem.tail)) ?_)
    case done1 =>
      intro h8 tk8 m8 led8 F8 N8 nd8 _ hJ
      refine sealG fun GG10 hGG10 => ?_
      obtain ⟨hm8, nds, ws, needs, epn, dues, R8, hdn, hws, hnl, hnames⟩ := hJ
      refine hGG10 ?_
      replace F8 := fr_sameL F8 hm8
      simp only [canon, List.foldr] at F8
      rw [List.size_toArray, ints_len hIf] at hnl
      have hn10 : needs.length ≤ 10 := by omega
      have hwl8 : NeedsAre led8 ws needs := hws.mono fun _ _ a o _ hm => R8.sub _ (.tail _ (.tail _ hm))
      repeat' ((fail_if_success (with_reducible show wpAny _ _ (PySem.call (Value.ref 167) _ _) _ _ _)); (first | (k_unfold; (try dsimp only)) | (k_end; wrow_close) | walk1 | (dsimp only; walk1) | (leave1; try dsimp only)))
      show wpAny _ _ (PySem.call (.ref 167) [.ref nl]) _ _ _
      have hKB := K0
      k_dflt (refine' roundsB (s₀ := s₀) K0 ?kF KX ?kN T rfl nd8 (R8.sub _ (.head _)) hwl8 hn10 ?khd ?khu ?_; (case kF => k_asm); (case kN => k_asm); (case khd => ktr_room); (case khu => ktr_units))
      intro h9 tk9 Tt rl ll vl epl left vr epr dn led9 F9 N9 nd9 up9 mT9 bT9 mrl brl mll bll hleft hrounds hre
      replace hre : roundsFrom needs (nms needs) (nms needs).length (nms needs) = (dn, left) := hre
      refine sealG fun GG11 hGG11 => ?_
      obtain ⟨robs, hrob, hrr⟩ := hrounds.objs
      have R9 := SR.consNs R8 (SR.consN R8 mrl brl (SR.consN R8 mll bll (R8.up up9))) robs (fun p hp => ⟨(hrob p hp).1, (hrob p hp).2.2⟩)
      obtain ⟨rest9, hr9⟩ : ∃ l, l = robs ++ (rl, W.listOf vr.toArray epr) :: (ll, W.listOf vl.toArray epl) :: (nl, W.listOf ws.toArray epn) :: (D6, W.listOf vf.toArray 0) :: dues := ⟨_, rfl⟩
      rw [← hr9] at R9
      have k9r : (rl, W.listOf vr.toArray epr) ∈ rest9 := by rw [hr9]; exact List.mem_append_right _ (.head _)
      have k9l : (ll, W.listOf vl.toArray epl) ∈ rest9 := by rw [hr9]; exact List.mem_append_right _ (.tail _ (.head _))
      have k9b : ∀ p ∈ robs, p ∈ rest9 := fun p hp => by rw [hr9]; exact List.mem_append_left _ hp
      have hkl : nds.length ≤ 800 := by
        have h1 := namesOf_len needs
        rw [← hnames, List.length_map] at h1
        omega
      have hscl : ∀ z, (scOf needs z).length ≤ 800 := fun z => by have := scOf_len needs z; omega
      have hscn : ∀ x ∈ nds.map (·.name), ∀ y ∈ scOf needs x, y ∈ nds.map (·.name) := fun x _ y hy => by rw [hnames]; exact scOf_names hy
      have hiσ := R9.S.inst
      obtain ⟨y1, y2, y3, y4, y5, y6, y7, y8, y9, y10, hdσ⟩ := R9.S.dict
      refine hGG11 ?_
      repeat' ((fail_if_success (with_reducible show wpAny _ _ (exec (Stmt.Assign _ (Expr.Call _ _ _ _) _) _) _ _ _)); (first | (k_unfold; (try dsimp only)) | (k_end; wrow_close) | walk1 | (dsimp only; walk1) | (leave1; try dsimp only)))
      rename Fr _ _ _ _ => F10
      rename News _ _ _ led9 => N10
      refine cut_set (x := Str.ofString "ring") (fun rv h' => (News s₁.heap s₁.heap.objs.size h' led9 ∧ rv = .none ∧ left = []) ∨ (∃ r ring vs ep c, rv = Value.ref r ∧ left ≠ [] ∧ News s₁.heap s₁.heap.objs.size h' ((r, W.listOf (List.toArray vs) ep) :: led9) ∧ StrsAre vs (ring ++ [c]) ∧ 2 ≤ (ring ++ [c]).length ∧ (ring ++ [c]).length ≤ 2000 ∧ (ring ++ [c])[0]? = some c ∧
        (∀ p a b, (ring ++ [c])[p]? = some a → (ring ++ [c])[p + 1]? = some b → (b, a) ∈ needs ∧ b ∉ ((ring ++ [c]).take (p + 1)).drop 1) ∧ (((r, W.listOf (List.toArray vs) ep) :: led9).map (·.1)).Nodup)) F10 ?_ ?_
      ·
        repeat' ((fail_if_success (with_reducible show wpAny _ _ (PySem.call (Value.ref 134) _ _) _ _ _)); (first | (k_unfold; (try dsimp only)) | (k_end; wrow_close) | walk1 | (dsimp only; walk1) | (leave1; try dsimp only)))
        show wpAny _ _ (PySem.call (.ref 134) [.ref σ]) _ _ _
        have N0 := N10
        rw [← List.append_nil led9] at N0
        have nd0 : ((led9 ++ ([] : List (Addr × Obj))).map (·.1)).Nodup := by rw [List.append_nil]; exact nd9
        k_dflt (refine' findCycle (s₀ := s₀) (outer := []) (frs := []) ?kF KX N0 T trivial rfl nd0 R9 hkl hscl hscn ?khd ?khu ?retN ?retR; (case kF => k_asm); (case khd => ktr_room); (case khu => ktr_units))
        case retN =>
          intro h11 tk11 frs' fin hsu _ F11 N11 _ ht hf
          refine sealG fun GG12 hGG12 => ?_
          obtain rfl := sameUp_nil hsu
          refine hGG12 ?_
          rw [List.append_nil] at N11
          rw [hnames] at hf
          have hl0 := topo_left hre ht hf
          repeat' ((fail_if_success (with_reducible show _ ∧ _)); (first | (k_unfold; (try dsimp only)) | (k_end; wrow_close) | walk1 | (dsimp only; walk1) | (leave1; try dsimp only)))
          exact ⟨rfl, _, _, _, rfl, by k_asm, .inl ⟨by k_asm, rfl, hl0⟩⟩
        case retR =>
          intro h11 tk11 frs' r ring vs ep c hsu _ F11 N11 nd11 hvs hP hlen h0 htn hin
          refine sealG fun GG13 hGG13 => ?_
          obtain rfl := sameUp_nil hsu
          refine hGG13 ?_
          rw [List.append_nil] at N11 nd11
          rw [hnames] at hin
          have hlne := ring_left hre hP hlen h0 hin
          have hrl : (ring ++ [c]).length ≤ 2000 := by
            have h1 := sum_le_of_nodup (fun _ => 1) _ (namesOf needs) htn fun x hx => hin x (List.mem_of_mem_tail hx)
            have h2 := namesOf_len needs
            simp only [List.map_const', List.sum_replicate_nat, Nat.mul_one, List.length_tail] at h1
            omega
          repeat' ((fail_if_success (with_reducible show _ ∧ _)); (first | (k_unfold; (try dsimp only)) | (k_end; wrow_close) | walk1 | (dsimp only; walk1) | (leave1; try dsimp only)))
          exact ⟨rfl, _, _, _, rfl, by k_asm, .inr ⟨r, ring, vs, ep, c, rfl, hlne, by k_asm, hvs, hlen, hrl, h0, fun p a b h1 h2 => ring_places hP htn h1 h2, nd11⟩⟩
      · intro h11 tk11 rv F11 hrv
        repeat' ((fail_if_success (with_reducible show wpAny _ _ (exec (Stmt.If _ _ _ _) _) _ _ _)); (first | (k_unfold; (try dsimp only)) | (k_end; wrow_close) | walk1 | (dsimp only; walk1) | (leave1; try dsimp only)))
        have hwl9 : NeedsAre led9 ws needs := hwl8.mono fun _ _ a o _ hm => up9 _ hm
        refine cut_next (fun h' => News s₁.heap s₁.heap.objs.size h' led9) F11 ?_ ?_
        ·
          rcases hrv with ⟨N11, rfl, hl0⟩ | ⟨r, ring, vs, ep, c, rfl, hlne, N11, hvs, hlen, hrl, h0, hpl, nd11⟩
          · repeat' ((fail_if_success (with_reducible show wpAny _ _ (compareOp CmpOp.NotEq (Value.ref _) (Value.ref _)) _ _ _)); (first | (k_unfold; (try dsimp only)) | (k_end; wrow_close) | walk1 | (dsimp only; walk1) | (leave1; try dsimp only)))
            k_dflt (refine ne_strs (by units_room) (by k_asm) (.tail _ mll) (.head _) hleft .nil ?_)
            rw [show (!decide (left = ([] : List Str))) = false by simp [hl0]]
            repeat' ((fail_if_success (with_reducible show _ ∧ _)); (first | (k_unfold; (try dsimp only)) | (k_end; wrow_close) | walk1 | (dsimp only; walk1) | (leave1; try dsimp only)))
            rename News s₁.heap _ _ _ => N12
            exact ⟨rfl, _, _, rfl, by k_asm, fun q hq => N12 q (.tail _ hq)⟩
          · repeat' ((fail_if_success (with_reducible show wpAny _ _ (compareOp CmpOp.NotEq (Value.ref _) (Value.ref _)) _ _ _)); (first | (k_unfold; (try dsimp only)) | (k_end; wrow_close) | walk1 | (dsimp only; walk1) | (leave1; try dsimp only)))
            rename _ ∧ _ => b12
            rename News s₁.heap _ _ ((_, W.listOf #[] 0) :: _) => N12
            k_dflt (refine ne_strs (by units_room) N12 (.tail _ (.tail _ mll)) (.head _) hleft .nil ?_)
            rw [show (!decide (left = ([] : List Str))) = true by simp [hlne]]
            repeat' ((fail_if_success (with_reducible show wpAny _ _ (PySem.call (Value.ref 174) _ _) _ _ _)); (first | (k_unfold; (try dsimp only)) | (k_end; wrow_close) | walk1 | (dsimp only; walk1) | (leave1; try dsimp only)))
            show wpAny _ _ (PySem.call (.ref 174) [.ref r, .ref nl]) _ _ _
            have nd12 := nodup_cons_of (p := (_, W.listOf #[] 0)) nd11 (show bnd ((r, W.listOf (List.toArray vs) ep) :: led9) ≤ _ by rw [bnd_cons]; exact Nat.max_le.mpr ⟨b12.1, b12.2⟩)
            k_dflt (refine' isRing (s₀ := s₀) K0 ?kF KX N12 T rfl nd12 (List.Mem.tail _ (.head _)) hvs (.tail _ (.tail _ (up9 _ (R8.sub _ (.head _))))) (hwl9.mono fun _ _ a o _ hm => .tail _ (.tail _ hm)) hlen hrl h0 hpl ?khd ?khu ?_; (case kF => k_asm); (case khd => ktr_room); (case khu => ktr_units))
            intro h13 tk13 F13 N13
            repeat' ((fail_if_success (with_reducible show _ ∧ _)); (first | (k_unfold; (try dsimp only)) | (k_end; wrow_close) | walk1 | (dsimp only; walk1) | (leave1; try dsimp only)))
            exact ⟨rfl, _, _, rfl, by k_asm, fun q hq => N13 q (.tail _ (.tail _ hq))⟩
        · intro h12 tk12 F12 N12
          repeat' ((fail_if_success (with_reducible show wpAny _ _ (exec (Stmt.If _ _ _ _) _) _ _ _)); (first | (k_unfold; (try dsimp only)) | (k_end; wrow_close) | walk1 | (dsimp only; walk1) | (leave1; try dsimp only)))
          refine cut_next (fun h' => ∃ led13 rdl ep vs, News s₁.heap s₁.heap.objs.size h' led13 ∧ (led13.map (·.1)).Nodup ∧ SR w led13 σ σd d nds (npOf needs) (scOf needs) (.ref rdl) 0 0 ((rdl, W.listOf (List.toArray vs) ep) :: rest9) ∧ (∀ p ∈ rest9, p.1 ≠ rdl) ∧ StrsAre vs ((nds.filter fun n => decide (npOf needs n.name = 0)).map (·.name))) F12 ?_ ?_
          ·
            repeat' ((fail_if_success (with_reducible show wpAny _ _ (PySem.call (Value.ref 181) _ _) _ _ _)); (first | (k_unfold; (try dsimp only)) | (k_end; wrow_close) | walk1 | (dsimp only; walk1) | (leave1; try dsimp only)))
            show wpAny _ _ (PySem.call (.ref 181) [.ref σ]) _ _ _
            have N0 := N12
            rw [← List.append_nil led9] at N0
            have nd0 : ((led9 ++ ([] : List (Addr × Obj))).map (·.1)).Nodup := by rw [List.append_nil]; exact nd9
            k_dflt (refine' refusedT (s₀ := s₀) (outer := []) (frs := []) ?kF KX N0 T trivial rfl nd0 R9 hkl hscl hscn ?khd ?khu ?retN ?retR; (case kF => k_asm); (case khd => ktr_room); (case khu => ktr_units))
            case retN =>
              intro h13 tk13 frs' led13 rdl ep vs fin hsu _ F13 N13 nd13 R13 hrr13 hvs13 ht hf
              refine sealG fun GG14 hGG14 => ?_
              obtain rfl := sameUp_nil hsu
              refine hGG14 ?_
              rw [List.append_nil] at N13 nd13
              rw [hnames] at hf
              have hl0 := topo_left hre ht hf
              have mll13 := R13.sub _ (.tail _ k9l)
              repeat' ((fail_if_success (with_reducible show wpAny _ _ (compareOp CmpOp.NotEq (Value.ref _) (Value.ref _)) _ _ _)); (first | (k_unfold; (try dsimp only)) | (k_end; wrow_close) | walk1 | (dsimp only; walk1) | (leave1; try dsimp only)))
              k_dflt (refine ne_strs (by units_room) (by k_asm) (.tail _ mll13) (.head _) hleft .nil ?_)
              rw [show (!decide (left = ([] : List Str))) = false by simp [hl0]]
              repeat' ((fail_if_success (with_reducible show _ ∧ _)); (first | (k_unfold; (try dsimp only)) | (k_end; wrow_close) | walk1 | (dsimp only; walk1) | (leave1; try dsimp only)))
              rename News s₁.heap _ _ ((_, W.listOf #[] 0) :: _) => N14
              exact ⟨rfl, _, _, rfl, by k_asm, led13, rdl, ep, vs, fun q hq => N14 q (.tail _ hq), nd13, R13, hrr13, hvs13⟩
            case retR =>
              intro h13 tk13 frs' led13 rdl ep vs ring c hsu _ F13 N13 nd13 R13 hrr13 hvs13 hP hlen h0 hin
              refine sealG fun GG15 hGG15 => ?_
              obtain rfl := sameUp_nil hsu
              refine hGG15 ?_
              rw [List.append_nil] at N13 nd13
              rw [hnames] at hin
              have hlne := ring_left hre hP hlen h0 hin
              have mll13 := R13.sub _ (.tail _ k9l)
              repeat' ((fail_if_success (with_reducible show wpAny _ _ (compareOp CmpOp.NotEq (Value.ref _) (Value.ref _)) _ _ _)); (first | (k_unfold; (try dsimp only)) | (k_end; wrow_close) | walk1 | (dsimp only; walk1) | (leave1; try dsimp only)))
              k_dflt (refine ne_strs (by units_room) (by k_asm) (.tail _ mll13) (.head _) hleft .nil ?_)
              rw [show (!decide (left = ([] : List Str))) = true by simp [hlne]]
              repeat' ((fail_if_success (with_reducible show _ ∧ _)); (first | (k_unfold; (try dsimp only)) | (k_end; wrow_close) | walk1 | (dsimp only; walk1) | (leave1; try dsimp only)))
              rename News s₁.heap _ _ ((_, W.listOf #[] 0) :: _) => N14
              exact ⟨rfl, _, _, rfl, by k_asm, led13, rdl, ep, vs, fun q hq => N14 q (.tail _ hq), nd13, R13, hrr13, hvs13⟩
          · intro h13 tk13 F13 hr13
            refine sealG fun GG16 hGG16 => ?_
            obtain ⟨led13, rdl, ep13, vs13, N13, nd13, R13, hrr13, hvs13⟩ := hr13
            refine hGG16 ?_
            repeat' ((fail_if_success (with_reducible show wpAny _ _ (exec (Stmt.For _ _ _ _ _) _) _ _ _)); (first | (k_unfold; (try dsimp only)) | (k_end; wrow_close) | walk1 | (dsimp only; walk1) | (leave1; try dsimp only)))
            have hrd0 : ∀ x, x ∈ (nds.filter fun n => decide (npOf needs n.name = 0)).map (·.name) ↔ x ∈ namesOf needs ∧ npOf needs x = 0 := fun x => by
              rw [← hnames, List.mem_map, List.mem_map]
              constructor
              · rintro ⟨n, hn, rfl⟩
                rw [List.mem_filter] at hn
                exact ⟨⟨n, hn.1, rfl⟩, by simpa using hn.2⟩
              · rintro ⟨⟨n, hn, rfl⟩, h0⟩
                exact ⟨n, List.mem_filter.mpr ⟨hn, by simpa using h0⟩, rfl⟩
            have hndn : (nds.map (·.name)).Nodup := by rw [hnames]; exact nodup_namesOf needs
            have K0' := kinv_start needs (rd := (nds.filter fun n => decide (npOf needs n.name = 0)).map (·.name)) (hndn.sublist (List.filter_sublist.map _)) hrd0
            have hrs : ∀ {lf rd : List Str} {np : Str → Int}, KInv needs (nms needs) lf np rd → (∀ r ∈ rd, ∃ n ∈ nds, n.name = r) ∧ rd.length ≤ 20 := fun {lf rd np} K => by
              have h1 : ∀ r ∈ rd, r ∈ namesOf needs := fun r hr => nms_names.mp (K.sub r (mem_gone.mp ((K.ready r).mp hr)).1)
              refine ⟨fun r hr => by have := h1 r hr; rw [← hnames] at this; exact List.mem_map.mp this, ?_⟩
              have h2 := sum_le_of_nodup (fun _ => 1) rd (namesOf needs) K.nodup h1
              have h3 := namesOf_len needs
              simp only [List.map_const', List.sum_replicate_nat, Nat.mul_one] at h2
              omega
            have hscn' : ∀ r, ∀ z ∈ scOf needs r, ∃ n ∈ nds, n.name = z := fun r z hz => by have := scOf_names hz; rw [← hnames] at this; exact List.mem_map.mp this
            have mrl13 : (rl, W.listOf vr.toArray epr) ∈ led13 := R13.sub _ (.tail _ k9r)
            have hJ0 : ∃ np npo ep vs rd lf, SR w led13 σ σd d nds np (scOf needs) (.ref rdl) npo npo ((rdl, W.listOf (List.toArray vs) ep) :: rest9) ∧ StrsAre vs rd ∧ KInv needs (nms needs) lf np rd ∧ GInv needs left dn 0 lf := ⟨npOf needs, 0, ep13, vs13, _, nms needs, R13, hvs13, K0', GInv.start hre⟩
            refine for_led s₁.heap rfl rfl ?_
            repeat' ((fail_if_success (with_reducible show wpAny _ _ (pyIter _) _ _ _)); (first | (k_unfold; (try dsimp only)) | (k_end; wrow_close) | walk1 | (dsimp only; walk1) | (leave1; try dsimp only)))
            k_dflt refine forAt_list rfl F13 N13 nd13 mrl13 (fun i m₁ led₁ => SameL [Str.ofString "due", Str.ofString "group"] m₁ _ ∧ ∃ np npo ep vs rd lf, SR w led₁ σ σd d nds np (scOf needs) (.ref rdl) npo npo ((rdl, W.listOf (List.toArray vs) ep) :: rest9) ∧ StrsAre vs rd ∧ KInv needs (nms needs) lf np rd ∧ GInv needs left dn i lf)
              ⟨SameL.refl _ _, hJ0⟩ ?turn2 ?done2
            case turn2 =>
              intro I i v m₁ led₁ h14 tk14 io hv hJ hrl14 F14 N14 nd14
              refine sealQ ?_; intro qT
              refine sealG fun GG17 hGG17 => ?_
              obtain ⟨hm₁, np, npo, ep, vs, rd, lf, R14, hvs14, K14, G14⟩ := hJ
              replace F14 := fr_sameL1 F14 hm₁
              simp only [canon, List.foldr] at F14
              obtain ⟨a, us, zs, g, epg, rfl, hg, hok, ha, hus, hzs, hzp⟩ := hrr.get (i := i) (v := v) (by simpa using hv)
              obtain ⟨rfl, G15⟩ := G14.turn K14 hg
              obtain ⟨hrs1, hrs2⟩ := hrs K14
              have hrdlI : @Ne Nat I rdl := neI nd14 (R14.sub _ (.head _))
              have R15 := (R14.consI (I := I) (io := io) (List.nodup_cons.mp nd14).1).less (rest' := (rdl, W.listOf vs.toArray ep) :: (I, io) :: rest9) (fun p hp => by
                rcases List.mem_cons.mp hp with rfl | hp
                · exact .tail _ (.head _)
                · rcases List.mem_cons.mp hp with rfl | hp
                  · exact .head _
                  · exact .tail _ (.tail _ hp))
              have hrr15 : ∀ p ∈ (I, io) :: rest9, p.1 ≠ rdl := fun p hp => by
                rcases List.mem_cons.mp hp with rfl | hp
                · exact hrdlI
                · exact hrr13 p hp
              have hiσ := R15.S.inst
              obtain ⟨y1, y2, y3, y4, y5, y6, y7, y8, y9, y10, hdσ⟩ := R15.S.dict
              refine hGG17 ?_
              repeat' ((fail_if_success (with_reducible show wpAny _ _ (PySem.call (Value.ref 106) _ _) _ _ _)); (first | (k_unfold; (try dsimp only)) | (k_end; wrow_close) | walk1 | (dsimp only; walk1) | (leave1; try dsimp only)))
              show wpAny _ _ (PySem.call (.ref 106) [.ref σ]) _ _ _
              k_dflt (refine' getReady (s₀ := s₀) K0 ?kF KX ?kN T rfl nd14 R15 hrr15 hvs14 hrs1 (by omega) ?khd ?khu ?_; (case kF => k_asm); (case kN => k_asm); (case khd => ktr_room); (case khu => ktr_units))
              intro h15 tk15 led15 D15 ep15 F15 N15 nd15 R16
              repeat' ((fail_if_success (with_reducible show wpAny _ _ (PySem.call (Value.builtin "sorted") _ _) _ _ _)); (first | (k_unfold; (try dsimp only)) | (k_end; wrow_close) | walk1 | (dsimp only; walk1) | (leave1; try dsimp only)))
              have hvl14 : vs.length < 64 := by rw [strs_len hvs14]; omega
              have mD16 := R16.sub _ (.tail _ (.head _))
              k_dflt (refine sorted_tup (by k_asm) (by k_asm) mD16 hvs14 hvl14 ?_)
              intro D17 h17 ws17 ss17 e17 F17 N17 b17 hws17 hp17 hso17
              have ma17 : (a, W.listOf us epg) ∈ led15 := R16.sub _ (.tail _ (.tail _ (.tail _ (k9b _ ha))))
              have nd17 := nodup_cons_of (p := (D17, W.listOf (List.toArray ws17) e17)) nd15 b17
              refine sealG fun GG18 hGG18 => ?_
              obtain ⟨us, rfl⟩ : ∃ u : List Value, us = u.toArray := ⟨us.toList, by simp⟩
              refine hGG18 ?_
              have hgr : rd.Perm (gone needs (nms needs) lf) := (List.perm_ext_iff_of_nodup K14.nodup (G14.nodup.sublist List.filter_sublist)).mpr K14.ready
              have hss : ss17 = zs := sorted_eq hso17 hzs (hp17.trans (hgr.trans hzp.symm))
              repeat' ((fail_if_success (with_reducible show wpAny _ _ (compareOp CmpOp.NotEq (Value.ref _) (Value.ref _)) _ _ _)); (first | (k_unfold; (try dsimp only)) | (k_end; wrow_close) | walk1 | (dsimp only; walk1) | (leave1; try dsimp only)))
              k_dflt (refine ne_strs (by units_room) (by k_asm) (.head _) (.tail _ ma17) hws17 hus ?_)
              rw [show (!decide (ss17 = zs)) = false by simp [hss]]
              have hiσ := R16.S.inst
              refine sealG fun GG19 hGG19 => ?_
              obtain ⟨y1, y2, y3, y4, y5, y6, y7, y8, y9, y10, hdσ⟩ := R16.S.dict
              refine hGG19 ?_
              repeat' ((fail_if_success (with_reducible show wpAny _ _ (eval (Expr.Call _ _ _ _) _) _ _ _)); (first | (k_unfold; (try dsimp only)) | (k_end; wrow_close) | walk1 | (dsimp only; walk1) | (leave1; try dsimp only)))
              k_dflt (refine call_methodStar ?_)
              repeat' ((fail_if_success (with_reducible show wpAny _ _ (callWith _ _ _ _ _) _ _ _)); (first | (k_unfold; (try dsimp only)) | (k_end; wrow_close) | walk1 | (dsimp only; walk1) | (leave1; try dsimp only)))
              rename_i q18 hh18 FF18 N18 b18
              k_dflt (refine callWith_starM KX N18 (.head _) (by k_is) ?_)
              repeat' ((fail_if_success (with_reducible show StarOf _ _ _ _ _ _)); (first | (k_unfold; (try dsimp only)) | (k_end; wrow_close) | walk1 | (dsimp only; walk1) | (leave1; try dsimp only)))
              k_dflt (refine' star_seq (ws := vs) ?k1 ?k2 (.tail _ (.tail _ mD16)) ?cc ?dd (.inr rfl) ?ee ?zz ?_; (case k1 => k_asm); (case k2 => k_asm); (case cc => exact rfl); (case dd => exact rfl); (case ee => simp); (case zz => (rw [sizeLine_eq, List.size_toArray]; omega)))
              intro h18 F18 N18
              have nd18 := nodup_cons_of (p := (q18, methodObj (Value.ref 127) (Value.ref σ))) nd17 (by rw [bnd_cons]; exact Nat.max_le.mpr ⟨b18.1, b18.2⟩)
              have R17 := (R16.up (l' := (q18, methodObj (Value.ref 127) (Value.ref σ)) :: (D17, W.listOf ws17.toArray e17) :: led15) (fun p hp => .tail _ (.tail _ hp))).less (rest' := (rdl, W.listOf (List.toArray []) ep15) :: (I, io) :: rest9) (fun p hp => by
                rcases List.mem_cons.mp hp with rfl | hp
                · exact .head _
                · exact .tail _ (.tail _ hp))
              refine ⟨methP N18 (.head _) (KX.keeps F18.keep), ?_⟩
              k_dflt (refine call_meth N18 (.head _) ?_)
              k_dflt (refine' doneAll (s₀ := s₀) K0 F18 KX N18 T rfl nd18 R17 hrr15 hvs14 hrs1 hscn' (fun i r hr => K14.out hr) hscl (by omega) ?khd ?khu ?_; (case khd => ktr_room); (case khu => ktr_units))
              intro h19 tk19 led19 ws19 ep19 F19 N19 nd19 hws19 R19
              have hI9 : ∀ p ∈ (rdl, W.listOf (List.toArray ws19) ep19) :: rest9, p.1 ≠ I := fun p hp => by
                rcases List.mem_cons.mp hp with rfl | hp
                · exact Ne.symm hrdlI
                · exact Ne.symm (neI (a := p.1) (o := p.2) nd14 (R14.sub _ (.tail _ hp)))
              have R20 := (R19.less (rest' := (I, io) :: (rdl, W.listOf (List.toArray ws19) ep19) :: rest9) (fun p hp => by
                rcases List.mem_cons.mp hp with rfl | hp
                · exact .tail _ (.head _)
                · rcases List.mem_cons.mp hp with rfl | hp
                  · exact .head _
                  · exact .tail _ (.tail _ hp))).drop hI9
              repeat' ((fail_if_success (with_reducible show TurnEnd _ _ _ _ _ _ _ _ _ _)); (first | (k_unfold; (try dsimp only)) | (k_end; wrow_close) | walk1 | (dsimp only; walk1) | (leave1; try dsimp only)))
              refine TurnEnd.go (by k_asm) (Mine.News.sub N19 (dropA_sub (R19.sub _ (.tail _ (.head _))))) (nodup_dropA nd19) (fun p hp => by rw [List.mem_singleton.mp hp]; exact R20.sub _ (.tail _ k9r)) ⟨?_, _, _, ep19, ws19, _, _, R20, hws19, K14.next (fun p hp => need_fst hp), G15⟩
              repeat (first | exact SameL.refl _ _ | refine SameL.set (by repeat (first | exact List.Mem.head _ | apply List.Mem.tail)) ?_)
            case done2 =>
              intro h14 tk14 m14 led14 F14 N14 nd14 _ hJ
              refine sealG fun GG20 hGG20 => ?_
              obtain ⟨hm14, np, npo, ep, vs, rd, lf, R14, hvs14, K14, G14⟩ := hJ
              replace F14 := fr_sameL F14 hm14
              simp only [canon, List.foldr] at F14
              rw [List.size_toArray, hrr.len] at G14
              have hgl := G14.last
              have hrd : rd = [] := List.eq_nil_iff_forall_not_mem.mpr fun x hx => by
                have h1 := (K14.ready x).mp hx
                rw [hgl] at h1
                cases h1
              subst hrd
              refine hGG20 ?_
              cases hvs14
              have hiσ := R14.S.inst
              refine sealG fun GG21 hGG21 => ?_
              obtain ⟨y1, y2, y3, y4, y5, y6, y7, y8, y9, y10, hdσ⟩ := R14.S.dict
              refine hGG21 ?_
              repeat' ((fail_if_success (with_reducible show wpAny _ _ (PySem.call (Value.ref 106) _ _) _ _ _)); (first | (k_unfold; (try dsimp only)) | (k_end; wrow_close) | walk1 | (dsimp only; walk1) | (leave1; try dsimp only)))
              show wpAny _ _ (PySem.call (.ref 106) [.ref σ]) _ _ _
              k_dflt (refine' getReady (s₀ := s₀) K0 ?kF KX ?kN T rfl nd14 R14 hrr13 StrsAre.nil (fun r hr => (nomatch hr)) (by simp) ?khd ?khu ?_; (case kF => k_asm); (case kN => k_asm); (case khd => ktr_room); (case khu => ktr_units))
              intro h15 tk15 led15 D15 ep15 F15 N15 nd15 R16
              have hiσ := R16.S.inst
              refine sealG fun GG22 hGG22 => ?_
              obtain ⟨y1, y2, y3, y4, y5, y6, y7, y8, y9, y10, hdσ⟩ := R16.S.dict
              refine hGG22 ?_
              have e0 : npo + (([] : List Str).length : Int) = npo := by simp
              rw [e0] at R16
              have mD15 := R16.sub _ (.tail _ (.head _))
              repeat' ((fail_if_success (with_reducible show wpAny _ _ (compareOp CmpOp.Eq _ _) _ _ _)); (first | (k_unfold; (try dsimp only)) | (k_end; wrow_close) | walk1 | (dsimp only; walk1) | (leave1; try dsimp only)))
              rename News _ _ _ ((_, _) :: led15) => N16
              k_dflt (refine eq_nils (by units_room) N16 (.tail _ mD15) (.head _) ?_)
              replace N16 := Mine.News.sub N16 (l' := led15) (fun p hp => .tail _ hp)
              repeat' ((fail_if_success (with_reducible show wpAny _ _ (PySem.call (Value.ref 113) _ _) _ _ _)); (first | (k_unfold; (try dsimp only)) | (k_end; wrow_close) | walk1 | (dsimp only; walk1) | (leave1; try dsimp only)))
              show wpAny _ _ (PySem.call (.ref 113) [.ref σ]) _ _ _
              k_dflt (refine' isActive (s₀ := s₀) K0 ?kF KX N16 T rfl nd15 R16 ?khd ?khu ?_; (case kF => k_asm); (case khd => ktr_room); (case khu => ktr_units))
              intro h17 tk17 F17 N17
              repeat' (first | (k_unfold; (try dsimp only)) | (k_end; wrow_close) | walk1 | (dsimp only; walk1) | (leave1; try dsimp only))

end
end Mine
theorem PySem.Challenge.cw_mr0291_01_holds : PySem.Challenge.rw_mr0291_01.Holds := by
  exact Mine.law0
