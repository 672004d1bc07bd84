import PyProof.Rows.All
import Wide.All
import OpenK.AllK
import Wide.FinOn
import PySem.Challenge.RW_bt5019_01
set_option Elab.async false
set_option linter.all false
section
open PySem PySem.W PyProof.Rows
set_option maxRecDepth 100000
set_option maxHeartbeats 0
local macro_rules | `(tactic| k_head) => `(tactic| z_head)
namespace Mine
open_top hz for PySem.Challenge.rw_bt5019_01
end Mine
end
section
open PySem PySem.W PyProof.Rows
set_option maxRecDepth 100000
namespace Mine

/-- the heap's size and the tokens never sink -/
noncomputable def Up (s s' : Shared) : Prop := s.heap.objs.size ≤ s'.heap.objs.size ∧ s.toks ≤ s'.toks
theorem Up.refl (s : Shared) : Up s s := ⟨Nat.le_refl _, Nat.le_refl _⟩
theorem Up.trans {a b c : Shared} (x : Up a b) (y : Up b c) : Up a c := ⟨Nat.le_trans x.1 y.1, Nat.le_trans x.2 y.2⟩
theorem size_update (h : Heap) (a : Addr) (f : Obj → Obj) : (h.update a f).objs.size = h.objs.size := (Heap.SameBut.update ..).1

theorem up_update {s s' : Shared} {a : Addr} {f : Obj → Obj} (h : Up { s with heap := s.heap.update a f } s') : Up s s' := ⟨Nat.le_trans (Nat.le_of_eq (size_update s.heap a f).symm) h.1, h.2⟩
theorem up_push {s s' : Shared} {o : Obj} (h : Up { s with heap := s.heap.push o } s') : Up s s' := ⟨Nat.le_trans (by show _ ≤ (Heap.push _ _).objs.size; rw [Heap.size_push]; exact Nat.le_succ _) h.1, h.2⟩
theorem up_tok {s s' : Shared} (h : Up { s with toks := s.toks + 1 } s') : Up s s' := ⟨h.1, Nat.le_trans (Nat.le_succ _) h.2⟩

theorem runs_up {M : Model} {Γ : Ctx} {p : Pos} {t : Sem Fin} {fs : List Frame} {s : Shared} {e : End} {s' : Shared} (h : Runs M Γ p t fs s e s') : Up s s' := by
  induction h with
  | done => exact .refl _
  | raise => exact .refl _
  | yield => exact .refl _
  | update _ _ ih => exact up_update ih
  | alloc _ ih => exact up_push ih
  | fresh _ ih => exact up_tok ih
  | call _ _ ih1 ih2 => exact ih1.trans ih2
  | callSusp _ ih => exact ih
  | resumeFresh _ _ _ _ ih1 ih2 => exact Up.trans ih1 ih2
  | resumeSuspended _ _ _ _ ih1 ih2 => exact Up.trans ih1 ih2
  | segRet _ _ ih1 ih2 => exact ih1.trans ih2
  | segGen _ _ ih1 ih2 => exact Up.trans ih1 ih2
  | segSuspGen _ _ _ _ ih1 ih2 => exact Up.trans ih1 ih2
  | _ => first | assumption | (rename_i ih; exact ih)
theorem wakes_up {M : Model} {Γ : Ctx} {p : Pos} {g : Nat} {r : Resume} {s : Shared} {res : GenResult} {s' : Shared} (h : Wakes M Γ p g r s res s') : Up s s' := by
  unfold Wakes at h
  split at h
  · cases h
  · split at h
    · obtain ⟨e₁, s₁, h, _, _, rfl⟩ := h; exact (runs_up h : Up _ _)
    · obtain ⟨_, rfl⟩ := h; exact .refl _
    · obtain ⟨_, rfl⟩ := h; exact .refl _
  · obtain ⟨e₁, s₁, h, _, _, rfl⟩ := h; exact (runs_up h : Up _ _)
  · obtain ⟨_, rfl⟩ := h; exact .refl _
  · obtain ⟨_, rfl⟩ := h; exact .refl _

theorem wp_up {M : Model} {Γ : Ctx} {α : Type} (t : Sem α) : ∀ {Q : α → Pos → Shared → Prop} {E : Value → Pos → Shared → Prop} {p : Pos} {s : Shared},
    Sem.wp M Γ t Q E p s → Sem.wp M Γ t (fun a p' s' => Q a p' s' ∧ Up s s') (fun e p' s' => E e p' s' ∧ Up s s') p s := by
  have wk : ∀ {β : Type} {t : Sem β} {Q : β → Pos → Shared → Prop} {E : Value → Pos → Shared → Prop} {p : Pos} {s s₀ : Shared}, Up s₀ s → Sem.wp M Γ t (fun a p' s' => Q a p' s' ∧ Up s s') (fun e p' s' => E e p' s' ∧ Up s s') p s →
      Sem.wp M Γ t (fun a p' s' => Q a p' s' ∧ Up s₀ s') (fun e p' s' => E e p' s' ∧ Up s₀ s') p s := fun u h =>
    Sem.wp_mono M Γ _ (fun _ _ _ z => ⟨z.1, u.trans z.2⟩) (fun _ _ _ z => ⟨z.1, u.trans z.2⟩) _ _ h
  induction t with
  | pure a => intro Q E p s h; exact ⟨h, .refl _⟩
  | raise e => intro Q E p s h; exact ⟨h, .refl _⟩
  | unsupported => intro Q E p s h; exact h.elim
  | finish => intro Q E p s h; exact h.elim
  | rule tag k ih => intro Q E p s h; exact ih () h
  | «at» q k ih => intro Q E p s h; exact ih () h
  | load a q k ih => intro Q E p s h; obtain ⟨o, ho, h⟩ := h; exact ⟨o, ho, ih o h⟩
  | update a q f k ih => intro Q E p s h; exact ⟨h.1, wk ⟨Nat.le_of_eq (size_update ..).symm, Nat.le_refl _⟩ (ih () h.2)⟩
  | alloc o k ih => intro Q E p s h; exact wk (s := { s with heap := s.heap.push o }) ⟨by show _ ≤ (Heap.push _ _).objs.size; rw [Heap.size_push]; exact Nat.le_succ _, Nat.le_refl _⟩ (ih _ h)
  | loadIfAlive a k ih => intro Q E p s h; exact ih _ h
  | point l k ih => intro Q E p s h; exact ih () h
  | register => intro Q E p s h; exact h.elim
  | fresh k ih => intro Q E p s h; exact wk (s := { s with toks := s.toks + 1 }) ⟨Nat.le_refl _, Nat.le_succ _⟩ (ih _ h)
  | ask k ih => intro Q E p s h; exact ih _ h
  | choose src n k ih => intro Q E p s h; exact ⟨h.1, ih _ h.2⟩
  | os q l k ih => intro Q E p s h; exact ih _ h
  | call c hd g l k ih => intro Q E p s h; obtain ⟨r, s₁, hr, h⟩ := h; exact ⟨r, s₁, hr, wk (runs_up hr) (ih r h)⟩
  | handled o k ih => intro Q E p s h; exact ih _ h
  | newGen c k ih => intro Q E p s h; exact ih _ h
  | genState g k ih => intro Q E p s h; obtain ⟨st, hs, h⟩ := h; exact ⟨st, hs, ih _ h⟩
  | resume g r l k ih => intro Q E p s h; obtain ⟨res, s₁, hr, h⟩ := h; exact ⟨res, s₁, hr, wk (wakes_up hr) (ih _ h)⟩
  | yield => intro Q E p s h; exact h.elim
  | stack k ih => intro Q E p s h; exact ih _ h
  | fork => intro Q E p s h; exact h.elim
  | thread k ih => intro Q E p s h; exact ih _ h
  | await => intro Q E p s h; exact h.elim

theorem wpAny_up {M : Model} {A : Around} {α : Type} {t : Sem α} {Q : α → Shared → Prop} {E : Value → Shared → Prop} {s : Shared} (h : wpAny M A t (fun a s' => Up s s' → Q a s') (fun e s' => Up s s' → E e s') s) : wpAny M A t Q E s :=
  fun Γ p hΓ => Sem.wp_mono M Γ t (fun _ _ _ z => z.1 z.2) (fun _ _ _ z => z.1 z.2) p s (wp_up t (h Γ p hΓ))
end Mine
end
section
open PySem PySem.W PyProof.Rows
set_option maxRecDepth 100000
namespace Mine

/-- plain data -/
inductive D where
  | none
  | notImpl
  | bool (b : Bool)
  | int (i : Int)
  | str (x : Str)
  | bytes (b : Array UInt8)
  | glob (v : Value)
  | tup (l : List D)
  | list (l : List D)
  | obj (C : Addr) (fs : List (Str × D))
  | mtch (pat : Addr) (x : Str) (spans : List Int)
  | iter (l : List D)

/-- a code's table: the one kind of object that stands outside and may still grow -/
noncomputable def IsTab (o : Obj) : Prop := o.cls = .none ∧ ∃ vs, o.data = .fields vs
theorem notTab_cls {o : Obj} {c : Value} (h : o.cls = c) (hc : c ≠ .none) : ¬ IsTab o := fun q => hc (h.symm.trans q.1)
theorem notTab_dict {o : Obj} {es : Array DictEntry} {n : Nat} (h : o.data = .dict es n) : ¬ IsTab o := fun ⟨_, _, q⟩ => by rw [h] at q; cases q

/-- a code's table, in order -/
noncomputable def TabOk (h : Heap) (P : Addr) : Prop := ∃ ps : Array Value, h.get? P = some { cls := .none, data := .fields ps } ∧ TriplesOk ps.toList
theorem TabOk.kept {h h' : Heap} {P : Addr} (x : TabOk h P) (k : ∀ o, h.get? P = some o → h'.get? P = some o) : TabOk h' P := let ⟨ps, e, t⟩ := x; ⟨ps, k _ e, t⟩
theorem TabOk.lt {h : Heap} {P : Addr} (x : TabOk h P) : P < h.objs.size := let ⟨_, e, _⟩ := x; Heap.lt_size e

/-- the tables of codes that the run may still grow -/
noncomputable def gtabMask : Nat := 0x810204081081020408100102040800008100002040810204200004081020408400002040810204000020408102040808101020080200400808081020080800001020400001020400000000000000000000408100040810204001000000200000100
noncomputable def gtab (P : Addr) : Bool := Nat.testBit gtabMask P
/-- they are tables of codes in H -/
noncomputable def GoodH (H : Heap) : Prop := ∀ P, gtab P = true → ∀ o, H.get? P = some o → IsTab o → isCodeTable H P
/-- generators: none left behind with a clean-up, none lost -/
noncomputable def GStep (a b : Array GenState) : Prop := (AllBare a → AllBare b) ∧ a.size ≤ b.size
theorem GStep.refl (a : Array GenState) : GStep a a := ⟨id, Nat.le_refl _⟩
theorem GStep.trans {a b c : Array GenState} (x : GStep a b) (y : GStep b c) : GStep a c := ⟨fun h => y.1 (x.1 h), Nat.le_trans x.2 y.2⟩
/-- how the state may go on: objects of U alone may turn -/
structure Stp (U : List Addr) (s s' : Shared) : Prop where
  size : s.heap.objs.size ≤ s'.heap.objs.size
  keep : ∀ b o, s.heap.get? b = some o → ¬ IsTab o → b ∉ U → s'.heap.get? b = some o
  old : ∀ H : Heap, H.objs.size ≤ s.heap.objs.size → (∀ u ∈ U, H.objs.size ≤ u) → GoodH H → OldK H s.heap → OldK H s'.heap
  tok : s.toks ≤ s'.toks
  os : s'.os = s.os
  gens : GStep s.gens s'.gens
  tabs : ∀ P, P ∉ U → TabOk s.heap P → TabOk s'.heap P

theorem Stp.refl (U : List Addr) (s : Shared) : Stp U s s := ⟨Nat.le_refl _, fun _ _ e _ _ => e, fun _ _ _ _ x => x, Nat.le_refl _, rfl, .refl _, fun _ _ t => t⟩
theorem Stp.trans {U V : List Addr} {s s' s'' : Shared} (x : Stp U s s') (y : Stp V s' s'') : Stp (U ++ V) s s'' where
  size := Nat.le_trans x.size y.size
  keep b o e hc hu := y.keep b o (x.keep b o e hc fun h => hu (List.mem_append_left _ h)) hc fun h => hu (List.mem_append_right _ h)
  old H hs hH g q := y.old H (Nat.le_trans hs x.size) (fun u hu => hH u (List.mem_append_right _ hu)) g (x.old H hs (fun u hu => hH u (List.mem_append_left _ hu)) g q)
  tok := Nat.le_trans x.tok y.tok
  os := y.os.trans x.os
  gens := x.gens.trans y.gens
  tabs P h t := y.tabs P (fun m => h (List.mem_append_right _ m)) (x.tabs P (fun m => h (List.mem_append_left _ m)) t)
theorem Stp.tr {s s' s'' : Shared} (x : Stp [] s s') (y : Stp [] s' s'') : Stp [] s s'' := x.trans y
/-- U may be cut to what stood before -/
theorem Stp.cut {U V : List Addr} {s s' : Shared} (x : Stp U s s') (h : ∀ u ∈ U, u ∈ V ∨ s.heap.objs.size ≤ u) : Stp V s s' := by
  refine ⟨x.size, fun b o e hc hu => ?_, fun H hs hH g q => ?_, x.tok, x.os, x.gens, fun P hP t => x.tabs P (fun q => (h P q).elim hP fun z => absurd t.lt (Nat.not_lt.mpr z)) t⟩
  · refine x.keep b o e hc fun q => ?_
    rcases h b q with q | q
    · exact hu q
    · exact absurd (Heap.lt_size e) (Nat.not_lt.mpr q)
  · refine x.old H hs (fun u hu => ?_) g q
    rcases h u hu with z | z
    · exact hH u z
    · exact Nat.le_trans hs z
theorem Stp.mono {U V : List Addr} {s s' : Shared} (x : Stp U s s') (h : ∀ u ∈ U, u ∈ V) : Stp V s s' := x.cut fun u hu => .inl (h u hu)
theorem Stp.fresh (s : Shared) (n : Nat) : Stp [] s { s with toks := s.toks + n } := ⟨Nat.le_refl _, fun _ _ e _ _ => e, fun _ _ _ _ x => x, Nat.le_add_right _ _, rfl, .refl _, fun _ _ t => t⟩
theorem Stp.toks {s : Shared} {t : Nat} (h : s.toks ≤ t) : Stp [] s { s with toks := t } := ⟨Nat.le_refl _, fun _ _ e _ _ => e, fun _ _ _ _ x => x, h, rfl, .refl _, fun _ _ t => t⟩
/-- heaps that grow: every object stays -/
theorem Stp.grow {s : Shared} {h : Heap} {t : Nat} (hz : s.heap.objs.size ≤ h.objs.size) (hk : ∀ b o, s.heap.get? b = some o → h.get? b = some o) (ht : s.toks ≤ t) :
    Stp [] s { s with heap := h, toks := t } :=
  ⟨hz, fun b o e _ _ => hk b o e, fun _ _ _ _ x => x.step_keeps hk, ht, rfl, .refl _, fun _ _ t => t.kept (hk _)⟩
theorem Stp.push (s : Shared) (o : Obj) : Stp [] s { s with heap := s.heap.push o } :=
  Stp.grow (t := s.toks) (by rw [Heap.size_push]; exact Nat.le_succ _) (fun _ _ e => Heap.get?_push_of_some _ e) (Nat.le_refl _)
/-- one object of one's own turns -/
theorem Stp.same {s : Shared} {h : Heap} {t : Nat} {a : Addr} (hs : Heap.SameBut a s.heap h) (ht : s.toks ≤ t) : Stp [a] s { s with heap := h, toks := t } where
  size := Nat.le_of_eq hs.1.symm
  keep b o e _ hu := (hs.2 b (by simpa using hu)).trans e
  old H _ hH _ x := x.step_same (hH a (.head _)) hs
  tok := ht
  os := rfl
  gens := .refl _
  tabs P h t := t.kept fun o e => (hs.2 P (by simpa using h)).trans e

theorem nsOn {U : List Addr} {s s' : Shared} {a : Addr} {m : Str → Option Value} (n : s.heap.Ns a m) (x : Stp U s s') (ha : a ∉ U) : s'.heap.Ns a m :=
  let ⟨o, es, ep, ho, hd, r⟩ := n; ⟨o, es, ep, x.keep _ _ ho (notTab_dict hd) ha, hd, r⟩

mutual
/-- the heap bears d at v, no address of O in it -/
inductive Rep (O : List Addr) (h : Heap) : Value → D → Prop where
  | none : Rep O h .none .none
  | notImpl : Rep O h .notImplemented .notImpl
  | bool (b : Bool) : Rep O h (.bool b) (.bool b)
  | int (i : Int) (t : Tok) : Rep O h (.int i t) (.int i)
  | str (x : Str) (t : Tok) : x.length ≤ sizeLine → Rep O h (.str x t) (.str x)
  | bytes (b : Array UInt8) (t : Tok) : b.size ≤ sizeLine → Rep O h (.bytes b t) (.bytes b)
  | glob (v : Value) : Rep O h v (.glob v)
  | tup {a : Addr} {o : Obj} {vs : List Value} {n : Nat} {l : List D} : a ∉ O → h.get? a = some o → o.cls = .type "tuple" → o.data = .seq vs.toArray n → RepL O h vs l → Rep O h (.ref a) (.tup l)
  | list {a : Addr} {o : Obj} {vs : List Value} {n : Nat} {l : List D} : a ∉ O → h.get? a = some o → o.cls = .type "list" → o.data = .seq vs.toArray n → RepL O h vs l → Rep O h (.ref a) (.list l)
  | obj {x dx C : Addr} {es : List DictEntry} {n : Nat} {fs : List (Str × D)} : x ∉ O → dx ∉ O → h.get? x = some (instObj C dx) → h.get? dx = some (dictOf es n) → RepF O h es fs → Rep O h (.ref x) (.obj C fs)
  | mtch {a sp pat : Addr} {x : Str} {t : Tok} {p0 p1 p2 : Value} {n : Nat} {spans : List Int} {o os : Obj} : a ∉ O → sp ∉ O → h.get? a = some o → o.cls = .type "re.Match" → o.dict = Option.none → o.data = .fields #[.str x t, .ref pat, p0, p1, p2, .ref sp] →
      h.get? sp = some os → os.cls = .type "tuple" → os.data = .seq (spans.map rawInt).toArray n → x.length ≤ sizeLine → Rep O h (.ref a) (.mtch pat x spans)
  | iter {a t : Addr} {oi o : Obj} {vs : List Value} {n : Nat} {l : List D} : a ∉ O → t ∉ O → h.get? a = some oi → oi.cls = .type "tuple_iterator" → oi.data = .fields #[.ref t, .int 0 0] → h.get? t = some o → o.cls = .type "tuple" → o.data = .seq vs.toArray n → RepL O h vs l → Rep O h (.ref a) (.iter l)
inductive RepL (O : List Addr) (h : Heap) : List Value → List D → Prop where
  | nil : RepL O h [] []
  | cons {v : Value} {d : D} {vs : List Value} {ds : List D} : Rep O h v d → RepL O h vs ds → RepL O h (v :: vs) (d :: ds)
inductive RepF (O : List Addr) (h : Heap) : List DictEntry → List (Str × D) → Prop where
  | nil : RepF O h [] []
  | cons {n : Str} {t : Tok} {k : Int} {v : Value} {d : D} {es : List DictEntry} {fs : List (Str × D)} : Rep O h v d → RepF O h es fs → RepF O h (⟨k, .str n t, v⟩ :: es) ((n, d) :: fs)
end

/-- what the heap must bear, datum by datum -/
noncomputable def InvD (O : List Addr) (h : Heap) (v : Value) : D → Prop
  | .none => v = .none
  | .notImpl => v = .notImplemented
  | .bool b => v = .bool b
  | .int i => ∃ t, v = .int i t
  | .str x => ∃ t, v = .str x t ∧ x.length ≤ sizeLine
  | .bytes b => ∃ t, v = .bytes b t ∧ b.size ≤ sizeLine
  | .glob u => v = u
  | .tup l => ∃ a o vs n, v = .ref a ∧ a ∉ O ∧ h.get? a = some o ∧ o.cls = .type "tuple" ∧ o.data = .seq (List.toArray vs) n ∧ RepL O h vs l
  | .list l => ∃ a o vs n, v = .ref a ∧ a ∉ O ∧ h.get? a = some o ∧ o.cls = .type "list" ∧ o.data = .seq (List.toArray vs) n ∧ RepL O h vs l
  | .obj C fs => ∃ x dx es n, v = .ref x ∧ x ∉ O ∧ dx ∉ O ∧ h.get? x = some (instObj C dx) ∧ h.get? dx = some (dictOf es n) ∧ RepF O h es fs
  | .mtch pat x spans => ∃ a sp t p0 p1 p2 n o os, v = .ref a ∧ a ∉ O ∧ sp ∉ O ∧ h.get? a = some o ∧ o.cls = .type "re.Match" ∧ o.dict = Option.none ∧ o.data = .fields #[.str x t, .ref pat, p0, p1, p2, .ref sp] ∧
      h.get? sp = some os ∧ os.cls = .type "tuple" ∧ os.data = .seq (spans.map rawInt).toArray n ∧ x.length ≤ sizeLine
  | .iter l => ∃ a t oi o vs n, v = .ref a ∧ a ∉ O ∧ t ∉ O ∧ h.get? a = some oi ∧ oi.cls = .type "tuple_iterator" ∧ oi.data = .fields #[.ref t, .int 0 0] ∧ h.get? t = some o ∧ o.cls = .type "tuple" ∧ o.data = .seq (List.toArray vs) n ∧ RepL O h vs l
theorem Rep.inv {O : List Addr} {h : Heap} {v : Value} {d : D} (r : Rep O h v d) : InvD O h v d := by
  cases r with
  | none => exact rfl
  | notImpl => exact rfl
  | bool b => exact rfl
  | int i t => exact ⟨t, rfl⟩
  | str x t hx => exact ⟨t, rfl, hx⟩
  | bytes x t hx => exact ⟨t, rfl, hx⟩
  | glob v => exact rfl
  | tup h1 h2 h3 h4 h5 => exact ⟨_, _, _, _, rfl, h1, h2, h3, h4, h5⟩
  | list h1 h2 h3 h4 h5 => exact ⟨_, _, _, _, rfl, h1, h2, h3, h4, h5⟩
  | obj h1 h2 h3 h4 h5 => exact ⟨_, _, _, _, rfl, h1, h2, h3, h4, h5⟩
  | mtch h1 h2 h3 h4 h5 h6 h7 h8 h9 h0 => exact ⟨_, _, _, _, _, _, _, _, _, rfl, h1, h2, h3, h4, h5, h6, h7, h8, h9, h0⟩
  | iter h1 h2 h3 h4 h5 h6 h7 h8 h9 => exact ⟨_, _, _, _, _, _, rfl, h1, h2, h3, h4, h5, h6, h7, h8, h9⟩
noncomputable def InvL (O : List Addr) (h : Heap) (vs : List Value) : List D → Prop
  | [] => vs = []
  | d :: ds => ∃ v us, vs = v :: us ∧ Rep O h v d ∧ RepL O h us ds
theorem RepL.inv {O : List Addr} {h : Heap} {vs : List Value} {ds : List D} (r : RepL O h vs ds) : InvL O h vs ds := by
  cases r with
  | nil => exact rfl
  | cons a b => exact ⟨_, _, rfl, a, b⟩

/-- what a datum stands on is kept -/
noncomputable def KeepFor (O : List Addr) (h h' : Heap) : Prop := ∀ b o, h.get? b = some o → ¬ IsTab o → b ∉ O → h'.get? b = some o

mutual
theorem Rep.keep {O O' : List Addr} {h h' : Heap} (k : KeepFor O h h') (hO : ∀ b o, b ∈ O' → h.get? b = some o → b ∈ O) : ∀ {v : Value} {d : D}, Rep O h v d → Rep O' h' v d
  | _, _, .none => .none
  | _, _, .notImpl => .notImpl
  | _, _, .bool b => .bool b
  | _, _, .int i t => .int i t
  | _, _, .str x t hx => .str x t hx
  | _, _, .bytes x t hx => .bytes x t hx
  | _, _, .glob v => .glob v
  | _, _, .tup ha ho hc hd hl => .tup (fun q => ha (hO _ _ q ho)) (k _ _ ho (notTab_cls hc (by intro q; cases q)) ha) hc hd (hl.keep k hO)
  | _, _, .list ha ho hc hd hl => .list (fun q => ha (hO _ _ q ho)) (k _ _ ho (notTab_cls hc (by intro q; cases q)) ha) hc hd (hl.keep k hO)
  | _, _, .obj hx hdx ho hod hf => .obj (fun q => hx (hO _ _ q ho)) (fun q => hdx (hO _ _ q hod)) (k _ _ ho (notTab_cls rfl (by intro q; cases q)) hx) (k _ _ hod (notTab_dict rfl) hdx) (hf.keep k hO)
  | _, _, .mtch ha hsp ho hc hdi hd hos hcs hds hx => .mtch (fun q => ha (hO _ _ q ho)) (fun q => hsp (hO _ _ q hos)) (k _ _ ho (notTab_cls hc (by intro q; cases q)) ha) hc hdi hd (k _ _ hos (notTab_cls hcs (by intro q; cases q)) hsp) hcs hds hx
  | _, _, .iter ha ht hi hic hid ho hc hd hl => .iter (fun q => ha (hO _ _ q hi)) (fun q => ht (hO _ _ q ho)) (k _ _ hi (notTab_cls hic (by intro q; cases q)) ha) hic hid (k _ _ ho (notTab_cls hc (by intro q; cases q)) ht) hc hd (hl.keep k hO)
theorem RepL.keep {O O' : List Addr} {h h' : Heap} (k : KeepFor O h h') (hO : ∀ b o, b ∈ O' → h.get? b = some o → b ∈ O) : ∀ {vs : List Value} {ds : List D}, RepL O h vs ds → RepL O' h' vs ds
  | _, _, .nil => .nil
  | _, _, .cons a b => .cons (a.keep k hO) (b.keep k hO)
theorem RepF.keep {O O' : List Addr} {h h' : Heap} (k : KeepFor O h h') (hO : ∀ b o, b ∈ O' → h.get? b = some o → b ∈ O) : ∀ {es : List DictEntry} {fs : List (Str × D)}, RepF O h es fs → RepF O' h' es fs
  | _, _, .nil => .nil
  | _, _, .cons a b => .cons (a.keep k hO) (b.keep k hO)
end
theorem Stp.keepFor {U O : List Addr} {s s' : Shared} (x : Stp U s s') (h : ∀ u ∈ U, u ∈ O) : KeepFor O s.heap s'.heap := fun b o e hc hb => x.keep b o e hc fun q => hb (h b q)
theorem Rep.on {U O : List Addr} {s s' : Shared} {v : Value} {d : D} (r : Rep O s.heap v d) (x : Stp U s s') (h : ∀ u ∈ U, u ∈ O := by simp) : Rep O s'.heap v d := r.keep (x.keepFor h) fun _ _ q _ => q
theorem RepL.on {U O : List Addr} {s s' : Shared} {v : List Value} {d : List D} (r : RepL O s.heap v d) (x : Stp U s s') (h : ∀ u ∈ U, u ∈ O := by simp) : RepL O s'.heap v d := r.keep (x.keepFor h) fun _ _ q _ => q
theorem RepF.on {U O : List Addr} {s s' : Shared} {v : List DictEntry} {d : List (Str × D)} (r : RepF O s.heap v d) (x : Stp U s s') (h : ∀ u ∈ U, u ∈ O := by simp) : RepF O s'.heap v d := r.keep (x.keepFor h) fun _ _ q _ => q
theorem RepL.length {O : List Addr} {h : Heap} : ∀ {vs : List Value} {ds : List D}, RepL O h vs ds → vs.length = ds.length
  | _, _, .nil => rfl
  | _, _, .cons _ b => congrArg (· + 1) b.length
theorem RepL.append {O : List Addr} {h : Heap} {us : List Value} {bs : List D} (y : RepL O h us bs) : ∀ {vs : List Value} {ds : List D}, RepL O h vs ds → RepL O h (vs ++ us) (ds ++ bs)
  | _, _, .nil => y
  | _, _, .cons a b => .cons a (y.append b)
theorem RepL.get {O : List Addr} {h : Heap} : ∀ {vs : List Value} {ds : List D}, RepL O h vs ds → ∀ {i : Nat} {d : D}, ds[i]? = some d → ∃ v, vs[i]? = some v ∧ Rep O h v d
  | _, _, .nil, i, d, e => by simp at e
  | _, _, .cons a b, 0, d, e => by simp at e; exact ⟨_, rfl, e ▸ a⟩
  | _, _, .cons a b, i + 1, d, e => by simp at e; simpa using b.get e

/-- the tables of the codes of K -/
noncomputable def tabsIn (K : Frag) : List Addr := K.filterMap fun p => match p.2.cls, p.2.data with
  | .type "code", .fields vs => (match (vs[11]? : Option Value) with
    | some (.ref P) => some P
    | _ => none)
  | _, _ => none

/-- the standing facts -/
structure Inv (K : Frag) (B : Nat) (s : Shared) : Prop where
  X : K.In s.heap
  lim : s.heap.NoLimit
  tok : 0 < s.toks
  base : B ≤ s.heap.objs.size
  tabs : ∀ P ∈ tabsIn K, TabOk s.heap P
  glob : ∃ mg mb, s.heap.Ns mainGlobals mg ∧ s.heap.Ns builtinsNs mb ∧ ∀ x : Str, x ≠ "__name__" → mb x = bootBuiltins x
theorem Inv.cs {K : Frag} {B : Nat} {s : Shared} (I : Inv K B s) : (s.heap.get? cStatics).isSome = true := by
  obtain ⟨_, ⟨o, _, _, e, _⟩, _⟩ := I.lim
  rw [e]; rfl
/-- K's objects lie below B and are no tables -/
structure Kok (K : Frag) (B : Nat) : Prop where
  low : ∀ a o, K.lookup a = some o → a < B
  cls : ∀ a o, K.lookup a = some o → ¬ IsTab o
  cs : cStatics < B
  mg : mainGlobals < B
  bn : builtinsNs < B
  tabs : ∀ P ∈ tabsIn K, P < B
theorem Inv.on {K : Frag} {B : Nat} {U : List Addr} {s s' : Shared} (k : Kok K B) (I : Inv K B s) (x : Stp U s s') (hU : ∀ u ∈ U, B ≤ u := by simp) : Inv K B s' where
  X a o e := x.keep a o (I.X _ _ e) (k.cls a o e) fun q => absurd (hU a q) (Nat.not_le.mpr (k.low a o e))
  lim := by
    obtain ⟨mc, n, q⟩ := I.lim
    exact ⟨mc, nsOn n x fun q => absurd (hU _ q) (Nat.not_le.mpr k.cs), q⟩
  glob := by
    obtain ⟨mg, mb, a, b, c⟩ := I.glob
    exact ⟨mg, mb, nsOn a x fun q => absurd (hU _ q) (Nat.not_le.mpr k.mg), nsOn b x fun q => absurd (hU _ q) (Nat.not_le.mpr k.bn), c⟩
  tok := Nat.lt_of_lt_of_le I.tok x.tok
  base := Nat.le_trans I.base x.size
  tabs P h := x.tabs P (fun q => absurd (hU P q) (Nat.not_le.mpr (k.tabs P h))) (I.tabs P h)
end Mine
end
section
open PySem PySem.W PyProof.Rows
set_option maxRecDepth 100000
namespace Mine

/-- what a function holds that it alone may turn -/
inductive Own where
  | none
  | lst (x : Str) (l : List D)
  | inst (x : Str) (C : Addr) (fs : List (Str × D))
structure PE where
  vars : List (Str × D)
  own : Own := .none

noncomputable def OwnOk (O W : List Addr) (N : Nat) (L : Addr) (m : Str → Option Value) (h : Heap) : Own → Prop
  | .none => True
  | .lst x l => ∃ b vs n, m x = some (.ref b) ∧ b ∈ W ∧ b ≠ L ∧ h.get? b = some (listOf (List.toArray vs) n) ∧ RepL O h vs l
  | .inst x C fs => ∃ a dx es n, m x = some (.ref a) ∧ W.getLast? = some a ∧ dx ∈ W ∧ dx ≠ L ∧ a ≠ dx ∧ h.get? a = some (instObj C dx) ∧ h.get? dx = some (dictOf es n) ∧ RepF O h es fs
structure LocOk (O W : List Addr) (N : Nat) (ρ : PE) (L : Addr) (h : Heap) : Prop where
  ns : ∃ m, h.Ns L m ∧ (∀ x d, ρ.vars.lookup x = some d → ∃ v, m x = some v ∧ Rep O h v d) ∧ OwnOk O W N L m h ρ.own
  out : L ∈ W
  sub : ∀ a ∈ W, a ∈ O ∧ N ≤ a

theorem OwnOk.on {O W : List Addr} {N : Nat} {L : Addr} {m : Str → Option Value} {s s' : Shared} {w : Own} (k : OwnOk O W N L m s.heap w) (x : Stp [] s s') : OwnOk O W N L m s'.heap w := by
  cases w with
  | none => trivial
  | lst y l =>
    obtain ⟨b, vs, n, h1, h2, h3, h4, h7⟩ := k
    exact ⟨b, vs, n, h1, h2, h3, x.keep _ _ h4 (notTab_cls rfl (by intro q; cases q)) (by simp), h7.on x⟩
  | inst y C fs =>
    obtain ⟨a, dx, es, n, h1, h2, h3, h4, h0, h5, h6, h7⟩ := k
    exact ⟨a, dx, es, n, h1, h2, h3, h4, h0, x.keep _ _ h5 (notTab_cls rfl (by intro q; cases q)) (by simp), x.keep _ _ h6 (notTab_dict rfl) (by simp), h7.on x⟩
theorem LocOk.on {O W : List Addr} {N : Nat} {ρ : PE} {L : Addr} {s s' : Shared} (k : LocOk O W N ρ L s.heap) (x : Stp [] s s') : LocOk O W N ρ L s'.heap := by
  obtain ⟨⟨m, hn, hv, ho⟩, h1, h2⟩ := k
  exact ⟨⟨m, nsOn hn x (by simp), fun y d e => let ⟨v, e1, r⟩ := hv y d e; ⟨v, e1, r.on x⟩, ho.on x⟩, h1, h2⟩

theorem LocOk.onU {O W : List Addr} {N : Nat} {ρ : PE} {L a : Addr} {s s' : Shared} (k : LocOk O W N ρ L s.heap) (x : Stp [a] s s') (ha : a ∈ O) (hw : a ∉ W) : LocOk O W N ρ L s'.heap := by
  obtain ⟨⟨m, hn, hv, ho⟩, h1, h2⟩ := k
  have sub : ∀ u ∈ [a], u ∈ O := fun u hu => by rw [List.mem_singleton.mp hu]; exact ha
  have ne : ∀ b ∈ W, b ∉ [a] := fun b hb q => hw (by rw [List.mem_singleton.mp q] at hb; exact hb)
  refine ⟨⟨m, nsOn hn x (ne L h1), fun y d e => let ⟨v, e1, r⟩ := hv y d e; ⟨v, e1, r.on x sub⟩, ?_⟩, h1, h2⟩
  cases how : ρ.own with
  | none => trivial
  | lst y l =>
    rw [how] at ho
    obtain ⟨b, vs, n, h1, h2, h3, h4, h7⟩ := ho
    exact ⟨b, vs, n, h1, h2, h3, x.keep _ _ h4 (notTab_cls rfl (by intro q; cases q)) (ne b h2), h7.on x sub⟩
  | inst y C fs =>
    rw [how] at ho
    obtain ⟨c, dx, es, n, h1, h2, h3, h4, h0, h5, h6, h7⟩ := ho
    exact ⟨c, dx, es, n, h1, h2, h3, h4, h0, x.keep _ _ h5 (notTab_cls rfl (by intro q; cases q)) (ne c (List.mem_of_getLast? h2)), x.keep _ _ h6 (notTab_dict rfl) (ne dx h3), h7.on x sub⟩

/-- the frame's surroundings -/
structure EnvOk (env : Env) (L : Addr) : Prop where
  kind : env.scope.kind = .function
  gl : env.globals = mainGlobals
  bl : env.builtins = builtinsNs
  loc : env.locals = L

/-- a code of the fixed part: its head stands, its table may grow -/
noncomputable def codeTab (K : Frag) (v : Value) : Bool := match v with
  | .ref c => match K.lookup c with
    | some o => o.cls == .type "code" && (match o.data with
      | .fields vs => (match (vs[11]? : Option Value), vs.getD 11 .none, vs.getD 18 .none, vs.getD 7 .none, vs.getD 9 .none, vs.getD 10 .none with
        | some (.ref P), .ref P', .str _ _, .int _ _, .bool _, .int _ _ => gtab P && c != P && P == P'
        | _, _, _, _, _, _ => false)
      | _ => false)
    | none => false
  | _ => false
/-- the frame's scope; a function's own (not a generator's) has its code in the fixed part -/
structure ScIs (K : Frag) (env : Env) (sc : Scope) : Prop where
  eq : env.scope = sc
  code : sc.names.lookup (".0" : Str) = none → codeTab K env.code = true
/-- room below: n calls deep -/
structure Room (A : Around) (n : Nat) : Prop where
  depth : A.depth + 8 * n < recursionLimit
  units : A.units + 16 * n < cLine
  handled : A.handled = none
  guards : A.guards = some []
  frames : ∃ l, A.frames = some l
theorem Room.less {A : Around} {n k : Nat} (r : Room A n) (h : k ≤ n) : Room A k := ⟨by have := r.depth; omega, by have := r.units; omega, r.handled, r.guards, r.frames⟩

section
variable (prog : Program) (w : World)
noncomputable def Gives (O : List Addr) (A : Around) (t : Sem Value) (s : Shared) (d : D) : Prop :=
  ∀ (Q : Value → Shared → Prop) (E : Value → Shared → Prop), (∀ v s', Stp [] s s' → Rep O s'.heap v d → Q v s') → wpAny (model prog w) A t Q E s
noncomputable def GivesB (A : Around) (t : Sem Bool) (s : Shared) (b : Bool) : Prop :=
  ∀ (Q : Bool → Shared → Prop) (E : Value → Shared → Prop), (∀ s', Stp [] s s' → Q b s') → wpAny (model prog w) A t Q E s
noncomputable def GivesL (O : List Addr) (A : Around) (t : Sem (List Value)) (s : Shared) (ds : List D) : Prop :=
  ∀ (Q : List Value → Shared → Prop) (E : Value → Shared → Prop), (∀ vs s', Stp [] s s' → RepL O s'.heap vs ds → Q vs s') → wpAny (model prog w) A t Q E s

structure St (K : Frag) (B : Nat) (O W : List Addr) (N : Nat) (ρ : PE) (L : Addr) (s : Shared) : Prop where
  inv : Inv K B s
  loc : LocOk O W N ρ L s.heap
  bn : B ≤ N
end
theorem St.on {K : Frag} {B : Nat} {O W : List Addr} {N : Nat} {ρ : PE} {L : Addr} {s s' : Shared} (k : Kok K B) (h : St K B O W N ρ L s) (x : Stp [] s s') : St K B O W N ρ L s' := ⟨h.inv.on k x, h.loc.on x, h.bn⟩

section
variable {prog : Program} {w : World} {K : Frag} {B : Nat} {O : List Addr} {A : Around}
theorem Gives.of_eq {t t' : Sem Value} {s : Shared} {d : D} (e : t = t') (h : Gives prog w O A t' s d) : Gives prog w O A t s d := e ▸ h
theorem gives_pure {v : Value} {s : Shared} {d : D} (r : Rep O s.heap v d) : Gives prog w O A (pure v) s d := fun _ _ k => wpAny_pure (k _ _ (.refl _ _) r)
theorem Gives.bind {α : Type} {t : Sem α} {f : α → Sem Value} {s : Shared} {d : D} (P : α → Shared → Prop) (h : ∀ (Q : α → Shared → Prop) E, (∀ a s', Stp [] s s' → P a s' → Q a s') → wpAny (model prog w) A t Q E s)
    (k : ∀ a s', Stp [] s s' → P a s' → Gives prog w O A (f a) s' d) : Gives prog w O A (t >>= f) s d := fun Q E q =>
  wpAny_bind (h _ _ fun a s' x p => k a s' x p Q E fun v s'' y r => q v s'' (x.tr y) r)
theorem Gives.holding {t : Sem Value} {s : Shared} {d : D} {vs : List Value} (h : Gives prog w O A t s d) : Gives prog w O A (PySem.holding vs t) s d := fun Q E k => wpAny_holding (h Q E k)

/-- names -/
theorem gives_local {env : Env} {L : Addr} {N : Nat} {ρ : PE} {x : Str} {pos : Pos} {d : D} {s : Shared} (he : EnvOk env L) (hs : St K B O W N ρ L s) (hk : env.scope.names.lookup x = some .local) (hd : (x == ("__debug__" : Str)) = false)
    (e : ρ.vars.lookup x = some d) : Gives prog w O A (eval (.Name x pos) env) s d := by
  obtain ⟨m, hn, hv, _⟩ := hs.loc.ns
  obtain ⟨v, hm, r⟩ := hv x d e
  intro Q E k
  exact wpAny_Name (wpAny_loadName_local he.kind hk (he.loc ▸ hn) hm (k v s (.refl _ _) r)) hd
noncomputable def globIn (K : Frag) (x : Str) : Option Value := match nsIn K mainGlobals x with
  | some (some v) => some v
  | some none => if x = "__name__" then none else bootBuiltins x
  | none => none
theorem gives_global {env : Env} {L : Addr} {x : Str} {pos : Pos} {v : Value} {s : Shared} (he : EnvOk env L) (I : Inv K B s) (hk : env.scope.names.lookup x = some .globalImplicit) (hd : (x == ("__debug__" : Str)) = false)
    (e : globIn K x = some v) {Q : Value → Shared → Prop} {E : Value → Shared → Prop} (q : Q v s) : wpAny (model prog w) A (eval (.Name x pos) env) Q E s := by
  obtain ⟨mg, mb, hg, hb, hmb⟩ := I.glob
  have hg' : s.heap.Ns env.globals mg := he.gl ▸ hg
  have hb' : s.heap.Ns env.builtins mb := he.bl ▸ hb
  unfold globIn at e
  split at e
  · rename_i q'
    cases e
    exact Calls.Name_function_global he.kind hk (Calls.loadGlobal_global hg' (mg_of I.X hg q') q) hd
  · rename_i q'
    split at e
    · cases e
    · rename_i hn
      exact Calls.Name_function_global he.kind hk (Calls.loadGlobal_builtin hg' (mg_none_of I.X hg q') hb' ((hmb x hn).trans e) q) hd
  · cases e
end
end Mine
end
section
open PySem PySem.W PyProof.Rows
set_option maxRecDepth 100000
namespace Mine

/-- a receiver: a datum, or the object under construction -/
inductive Rcv where
  | dat (d : D)
  | self (C : Addr) (fs : List (Str × D))
noncomputable def Rcv.norm : Rcv → Rcv
  | .dat (.obj C fs) => .self C fs
  | r => r

structure Ops where
  bin : Operator → D → D → Option D
  cmp : CmpOp → D → D → Option D
  tru : D → Option Bool
  attr : Rcv → Str → Option D
  item : D → D → Option D
  cut : D → D → Option D
  call : D → List D → List (Str × D) → Option D
  meth : Rcv → Str → List D → List (Str × D) → Option D
  textsOf : D → Option D
  gens : Scope → Str → Expr → D → Option D
  fmtS : D → Option Str

structure PC where
  sc : Scope
  ρ : PE
  glob : Str → Option Value
  ops : Ops

noncomputable def litD : Const → Option D
  | .none => some .none
  | .bool b => some (.bool b)
  | .int i => some (.int i)
  | .str x => if x.length ≤ 1000 then some (.str x) else none
  | _ => none
noncomputable def globD : Value → D
  | .notImplemented => .notImpl
  | v => .glob v
noncomputable def nameD (c : PC) (x : Str) : Option D :=
  if x == ("__debug__" : Str) then none else match c.sc.names.lookup x with
  | some .local => c.ρ.vars.lookup x
  | some .globalImplicit => (c.glob x).map globD
  | _ => none
noncomputable def isName : Expr → Option Str
  | .Name x _ => some x
  | _ => none
noncomputable def plainExpr : Expr → Bool
  | .Starred .. | .Set .. | .ListComp .. | .SetComp .. | .DictComp .. | .GeneratorExp .. => false
  | _ => true
noncomputable def notStar : Expr → Bool
  | .Starred .. => false
  | _ => true
noncomputable def evsWith (f : Expr → Option D) : List Expr → Option (List D)
  | [] => some []
  | e :: r => if notStar e then match f e with
    | some d => match evsWith f r with
      | some ds => some (d :: ds)
      | none => none
    | none => none else none
noncomputable def evkWith (f : Expr → Option D) : List Keyword → Option (List (Str × D))
  | [] => some []
  | ⟨some n, e, _⟩ :: r => match f e with
    | some d => match evkWith f r with
      | some ds => some ((n, d) :: ds)
      | none => none
    | none => none
  | _ => none
noncomputable def boolWith (f : Expr → Option D) (tru : D → Option Bool) (op : BoolOp) : List Expr → Option D
  | [] => none
  | [e] => f e
  | e :: r => match f e with
    | some d => match tru d with
      | some t => (match op, t with
        | .And, false => some d
        | .Or, true => some d
        | _, _ => boolWith f tru op r)
      | none => none
    | none => none
noncomputable def allWith (g : Expr → Option Bool) (op : BoolOp) : List Expr → Option Bool
  | [] => some (op == .And)
  | e :: r => match g e with
    | some t => (match op, t with
      | .And, false => some false
      | .Or, true => some true
      | _, _ => allWith g op r)
    | none => none
/-- the receiver of an attribute or a method -/
noncomputable def rcvWith (c : PC) (f : Expr → Option D) (e : Expr) : Option Rcv := match c.ρ.own, isName e with
  | .inst x C fs, some y => if x = y then (if (y == ("__debug__" : Str)) = false ∧ c.sc.names.lookup y = some .local then some (.self C fs) else none) else (f e).map .dat
  | _, _ => (f e).map .dat
noncomputable def noSuper : Expr → Bool
  | .Call (.Name id _) [] [] _ => id != ("super" : Str)
  | _ => true
noncomputable def isSlice : Expr → Bool
  | .Slice .. => true
  | _ => false
noncomputable def callOk (n : Nat) (kws : List Keyword) : Bool := decide (n + kws.length < 20)

noncomputable def isStrT : Option Value → Bool
  | some (.type t) => t == "str"
  | _ => false
/-- the scope of a comprehension that is plain -/
noncomputable def notSet : Expr → Bool
  | .Set .. => false
  | _ => true
noncomputable def compOk (sc : Scope) (x : Str) (it : Expr) : Bool := notSet it && sc.kind == .function && sc.names.all (fun y => y.2 != .free && y.2 != .cell) && sc.names.all (fun y => y.2 != .local || sc.names.lookup y.1 == some .local) && sc.names.lookup x == some .local && sc.names.lookup ("str" : Str) == some .globalImplicit && x != ("__debug__" : Str)
noncomputable def isTupT : Option Value → Bool
  | some (.type t) => t == "tuple"
  | _ => false
/-- the source of a generator that is plain -/
noncomputable def notList : Expr → Bool
  | .List .. => false
  | _ => true
noncomputable def genOk (csc sc : Scope) (h x : Str) (it : Expr) : Bool := notSet it && notList it && sc.kind == .function && !sc.isCoroutine && sc.names.all (fun y => y.2 != .free && y.2 != .cell) && sc.names.lookup (".0" : Str) == some .local && sc.names.lookup x == some .local && x != ("__debug__" : Str) && x != (".0" : Str) &&
  csc.names.lookup h == some .globalImplicit && h != ("__debug__" : Str) && (csc.names.lookup (".0" : Str)).isNone
/-- the pieces of an f-string -/
noncomputable def partJ (fm : D → Option Str) (f : Expr → Option D) : Expr → Option Str
  | .Constant (.str s) _ _ => if s.length ≤ 1000 then some s else none
  | .FormattedValue v k none _ => if k = 115 then (f v).bind fm else none
  | _ => none
noncomputable def partsJ (fm : D → Option Str) (f : Expr → Option D) : List Expr → Option Str
  | [] => some Str.empty
  | e :: r => match partJ fm f e with
    | some x => (match partsJ fm f r with
      | some y => if x.length + y.length ≤ 5000 then some (x ++ y) else none
      | none => none)
    | none => none
/-- the slice [:u] -/
noncomputable def cutOf : Expr → Option Expr
  | .Slice none (some u) none _ => some u
  | _ => none
/-- a generator expression that is plain -/
noncomputable def genOf : List Expr → List Keyword → Option (Expr × Str × Pos × Expr × Scope × Pos)
  | [.GeneratorExp elt [⟨.Name x xp, it, [], 0⟩] sc gp], [] => some (elt, x, xp, it, sc, gp)
  | _, _ => none
/-- str(x) for y in it -/
noncomputable def textOf : Expr → List Comprehension → Option (Str × Pos × Str × Pos × Pos × Str × Pos × Expr)
  | .Call (.Name h hp) [.Name x xp] [] cp, [⟨.Name y yp, it, [], 0⟩] => some (h, hp, x, xp, cp, y, yp, it)
  | _, _ => none
theorem cutOf_inv {i u : Expr} (h : cutOf i = some u) : ∃ p, i = .Slice none (some u) none p := by
  unfold cutOf at h
  split at h
  · cases h; exact ⟨_, rfl⟩
  · cases h
theorem cutOf_none {i : Expr} (h : isSlice i = false) : cutOf i = none := by cases i <;> first | rfl | cases h
theorem genOf_inv {es : List Expr} {kws : List Keyword} {elt it : Expr} {x : Str} {xp gp : Pos} {sc : Scope} (h : genOf es kws = some (elt, x, xp, it, sc, gp)) : es = [.GeneratorExp elt [⟨.Name x xp, it, [], 0⟩] sc gp] ∧ kws = [] := by
  unfold genOf at h
  split at h
  · cases h; exact ⟨rfl, rfl⟩
  · cases h
theorem textOf_inv {elt it : Expr} {gens : List Comprehension} {h x y : Str} {hp xp cp yp : Pos} (e : textOf elt gens = some (h, hp, x, xp, cp, y, yp, it)) : elt = .Call (.Name h hp) [.Name x xp] [] cp ∧ gens = [⟨.Name y yp, it, [], 0⟩] := by
  unfold textOf at e
  split at e
  · cases e; exact ⟨rfl, rfl⟩
  · cases e
noncomputable def evStep (c : PC) (f : Expr → Option D) (g : Expr → Option Bool) : Expr → Option D
  | .Constant k _ _ => litD k
  | .Name x _ => nameD c x
  | .BoolOp op es _ => boolWith f c.ops.tru op es
  | .BinOp l op r _ => match f l with
    | some a => match f r with
      | some b => c.ops.bin op a b
      | none => none
    | none => none
  | .UnaryOp op x _ => match op with
    | .Not => (match f x with
      | some a => (c.ops.tru a).map fun b => .bool (!b)
      | none => none)
    | _ => none
  | .IfExp t b o _ => match g t with
    | some true => f b
    | some false => f o
    | none => none
  | .Compare l ops rs _ => match ops, rs with
    | [op], [r] => (if plainExpr r then match f l with
      | some a => match f r with
        | some b => c.ops.cmp op a b
        | none => none
      | none => none else none)
    | _, _ => none
  | .Tuple es _ _ => (evsWith f es).bind fun ds => if ds.length ≤ 1000 then some (.tup ds) else none
  | .List es _ => (evsWith f es).bind fun ds => if ds.length ≤ 1000 then some (.list ds) else none
  | .Attribute v a _ => if noSuper v then match rcvWith c f v with
    | some r => c.ops.attr r a
    | none => none else none
  | .Subscript v i _ => match cutOf i with
    | some u => (match f v with
      | some a => match f u with
        | some b => c.ops.cut a b
        | none => none
      | none => none)
    | none => if isSlice i then none else match f v with
      | some a => match f i with
        | some b => c.ops.item a b
        | none => none
      | none => none
  | .Call fn es kws pos => match fn with
    | .Attribute v a apos => (if noSuper v && callOk es.length kws && apos.endLine == pos.line then match rcvWith c f v with
      | some r => match evsWith f es with
        | some ds => match evkWith f kws with
          | some ks => c.ops.meth r a ds ks
          | none => none
        | none => none
      | none => none else none)
    | .Name x p => (match genOf es kws with
      | some (elt, y, _, it, sc, _) => (if genOk c.sc sc x y it = true ∧ isTupT (c.glob x) = true then match f it with
        | some a => c.ops.gens sc y elt a
        | none => none else none)
      | none => if callOk es.length kws then match f (.Name x p) with
        | some h => match evsWith f es with
          | some ds => match evkWith f kws with
            | some ks => c.ops.call h ds ks
            | none => none
          | none => none
        | none => none else none)
    | _ => none
  | .JoinedStr es _ => match es with
    | v₁ :: v₂ :: r => (partsJ c.ops.fmtS f (v₁ :: v₂ :: r)).map .str
    | _ => none
  | .ListComp elt gens sc _ => match textOf elt gens with
    | some (h, _, x, _, _, y, _, it) => (if h = "str" ∧ x = y ∧ compOk sc x it = true ∧ isStrT (c.glob h) = true then match f it with
      | some a => c.ops.textsOf a
      | none => none else none)
    | none => none
  | _ => none
noncomputable def tvStep (c : PC) (f : Expr → Option D) (g : Expr → Option Bool) : Expr → Option Bool
  | .UnaryOp .Not x _ => (g x).map (!·)
  | .BoolOp op es _ => allWith g op es
  | .IfExp t b o _ => match g t with
    | some true => g b
    | some false => g o
    | none => none
  | .Compare l [op] [r] _ => if plainExpr r then match f l with
    | some a => match f r with
      | some b => (c.ops.cmp op a b).bind c.ops.tru
      | none => none
    | none => none else none
  | .Compare .. => none
  | e => (f e).bind c.ops.tru
noncomputable def both (c : PC) : Nat → (Expr → Option D) × (Expr → Option Bool)
  | 0 => (fun _ => none, fun _ => none)
  | n + 1 => (evStep c (both c n).1 (both c n).2, tvStep c (both c n).1 (both c n).2)
noncomputable def ev (c : PC) (n : Nat) (e : Expr) : Option D := (both c n).1 e
noncomputable def tv (c : PC) (n : Nat) (e : Expr) : Option Bool := (both c n).2 e
end Mine
end
section
open PySem PySem.W PyProof.Rows
set_option maxRecDepth 100000
namespace Mine

/-- how the heap bears a receiver -/
noncomputable def SelfAt (O : List Addr) (h : Heap) (v : Value) (C : Addr) (fs : List (Str × D)) : Prop :=
  ∃ a dx es n, v = .ref a ∧ a ≠ dx ∧ h.get? a = some (instObj C dx) ∧ h.get? dx = some (dictOf es n) ∧ RepF O h es fs
noncomputable def RRep (O : List Addr) (h : Heap) (v : Value) : Rcv → Prop
  | .dat d => Rep O h v d
  | .self C fs => SelfAt O h v C fs
theorem SelfAt.of {O : List Addr} {h : Heap} {v : Value} {C : Addr} {fs : List (Str × D)} (r : Rep O h v (.obj C fs)) : SelfAt O h v C fs := by
  obtain ⟨_, _, _, _, rfl, hx, hdx, ho, hod, hf⟩ := r.inv
  · refine ⟨_, _, _, _, rfl, ?_, ho, hod, hf⟩
    rintro rfl
    rw [ho] at hod
    cases hod
theorem RRep.norm {O : List Addr} {h : Heap} {v : Value} {r : Rcv} (x : RRep O h v r) : RRep O h v r.norm := by
  cases r with
  | self C fs => exact x
  | dat d => cases d <;> first | exact x | exact SelfAt.of x
theorem SelfAt.on {O : List Addr} {s s' : Shared} {v : Value} {C : Addr} {fs : List (Str × D)} (h : SelfAt O s.heap v C fs) (x : Stp [] s s') : SelfAt O s'.heap v C fs := by
  obtain ⟨a, dx, es, n, e, hne, h1, h2, h3⟩ := h
  exact ⟨a, dx, es, n, e, hne, x.keep _ _ h1 (notTab_cls rfl (by intro q; cases q)) (by simp), x.keep _ _ h2 (notTab_dict rfl) (by simp), h3.on x⟩
theorem RRep.on {O : List Addr} {s s' : Shared} {v : Value} {r : Rcv} (h : RRep O s.heap v r) (x : Stp [] s s') : RRep O s'.heap v r := by
  cases r with
  | dat d => exact Rep.on h x
  | self C fs => exact SelfAt.on h x

noncomputable def OLow (O : List Addr) (s : Shared) : Prop := ∀ a ∈ O, a < s.heap.objs.size
theorem OLow.on {O : List Addr} {U : List Addr} {s s' : Shared} (h : OLow O s) (x : Stp U s s') : OLow O s' := fun a ha => Nat.lt_of_lt_of_le (h a ha) x.size

section
variable (prog : Program) (w : World) (K : Frag) (B : Nat)
/-- a callee that is ready: whatever its arguments, in a later state it gives r -/
noncomputable def CalleeOk (O : List Addr) (A : Around) (s : Shared) (f : Value) (first : List Value) (as : List D) (ks : List (Str × D)) (r : D) : Prop :=
  ∀ s', Stp [] s s' → (∃ k, (k = Keeper.frame ∨ k = Keeper.machine ∨ k = Keeper.boundFrame) ∧ Looks (model prog w) s'.heap (keeperOf f) k) ∧
    ∀ vs kv, RepL O s'.heap vs as → RepL O s'.heap kv (ks.map (·.2)) → Gives prog w O A (call f (first ++ vs) ((ks.map (·.1)).zip kv)) s' r
structure OpsOk (n : Nat) (ops : Ops) : Prop where
  bin : ∀ {op a b d}, ops.bin op a b = some d → ∀ {A O s va vb}, Room A n → Inv K B s → OLow O s → Rep O s.heap va a → Rep O s.heap vb b → Gives prog w O A (binaryOp op va vb) s d
  cmp : ∀ {op a b d}, ops.cmp op a b = some d → ∀ {A O s va vb}, Room A n → Inv K B s → OLow O s → Rep O s.heap va a → Rep O s.heap vb b → Gives prog w O A (compareOp op va vb) s d
  tru : ∀ {a t}, ops.tru a = some t → ∀ {A O s va}, Room A n → Inv K B s → OLow O s → Rep O s.heap va a → GivesB prog w A (truthy va) s t
  attr : ∀ {r x d}, ops.attr r x = some d → ∀ {A O s v}, Room A n → Inv K B s → OLow O s → RRep O s.heap v r → Gives prog w O A (getAttr v x true) s d
  item : ∀ {a b d}, ops.item a b = some d → ∀ {A O s va vb} (value slice : Expr), Room A n → Inv K B s → OLow O s → isSlice slice = false → Rep O s.heap va a → Rep O s.heap vb b → Gives prog w O A (subscriptTail value slice va vb) s d
  cut : ∀ {a b d}, ops.cut a b = some d → ∀ {A O s va vb sl} (value u : Expr) (p : Pos), Room A n → Inv K B s → OLow O s → s.heap.get? sl = some { cls := .type "slice", data := .fields #[.none, vb, .none] } → Rep O s.heap va a → Rep O s.heap vb b → Gives prog w O A (subscriptTail value (.Slice none (some u) none p) va (.ref sl)) s d
  call : ∀ {h as ks d}, ops.call h as ks = some d → ∀ {A O s f}, Room A n → Inv K B s → OLow O s → Rep O s.heap f h → CalleeOk prog w O A s f [] as ks d
  meth : ∀ {r x as ks d}, ops.meth r x as ks = some d → ∀ {A O s v}, Room A n → Inv K B s → OLow O s → RRep O s.heap v r → ∀ (pl : Sem Bool) (Q : Value × List Value → Shared → Prop) (E : Value → Shared → Prop),
    (∀ f first s', Stp [] s s' → CalleeOk prog w O A s' f first as ks d → Q (f, first) s') → wpAny (model prog w) A (getMethod v x pl) Q E s
  texts : ∀ {a d}, ops.textsOf a = some d → ∀ {A O W s env L N ρ x y h} {hp xp cp yp pos it sc}, Room A n → EnvOk env L → St K B O W N ρ L s → OLow O s → h = Str.ofString "str" → x = y → compOk sc x it = true → globIn K h = some (.type "str") →
    (∀ s', Stp [] s s' → Gives prog w O A (eval it env) s' a) → Gives prog w O A (eval (.ListComp (.Call (.Name h hp) [.Name x xp] [] cp) [⟨.Name y yp, it, [], 0⟩] sc pos) env) s d
  fmt : ∀ {a x}, ops.fmtS a = some x → ∀ {A O s v}, Room A n → Inv K B s → OLow O s → Rep O s.heap v a → ∀ (Q : Value → Shared → Prop) (E : Value → Shared → Prop), (∀ v' s' t, Stp [] s s' → v' = .str x t → Q v' s') → x.length ≤ 1000 ∧ wpAny (model prog w) A (convS v) Q E s
  gens : ∀ {sc x elt a d}, ops.gens sc x elt a = some d → ∀ {A O W s env L N ρ h csc} {hp xp cp pos it}, Room A n → EnvOk env L → ScIs K env csc → St K B O W N ρ L s → OLow O s → genOk csc sc h x it = true → globIn K h = some (.type "tuple") →
    (∀ s', Stp [] s s' → Gives prog w O A (eval it env) s' a) → Gives prog w O A (eval (.Call (.Name h hp) [.GeneratorExp elt [⟨.Name x xp, it, [], 0⟩] sc pos] [] cp) env) s d
end

section
variable {prog : Program} {w : World} {K : Frag} {B : Nat} (k : Kok K B) {n : Nat} {c : PC} (ok : OpsOk prog w K B n c.ops) (hg : ∀ x v, c.glob x = some v → globIn K x = some v)
variable {A : Around} (hA : Room A n) {O W : List Addr} {N : Nat} {L : Addr} {env : Env} (he : EnvOk env L) (hsc : ScIs K env c.sc)

noncomputable def EvOk (prog : Program) (w : World) (K : Frag) (B : Nat) (c : PC) (A : Around) (O W : List Addr) (N : Nat) (L : Addr) (env : Env) (e : Expr) (d : D) : Prop :=
  ∀ s, St K B O W N c.ρ L s → OLow O s → Gives prog w O A (eval e env) s d
noncomputable def TvOk (prog : Program) (w : World) (K : Frag) (B : Nat) (c : PC) (A : Around) (O W : List Addr) (N : Nat) (L : Addr) (env : Env) (e : Expr) (t : Bool) : Prop :=
  ∀ s, St K B O W N c.ρ L s → OLow O s → GivesB prog w A (isTrue e env (eval e env)) s t

include k
theorem evs_ok {f : Expr → Option D} (hf : ∀ e d, f e = some d → EvOk prog w K B c A O W N L env e d) (pos : Pos) : ∀ {es : List Expr} {ds : List D}, evsWith f es = some ds → ∀ s, St K B O W N c.ρ L s → OLow O s →
    GivesL prog w O A (spliced (backTo pos (starEach es env))) s ds
  | [], ds, e, s, hs, hO => by
    cases e
    exact fun Q E q => wpAny_items_nil (q [] s (.refl _ _) .nil)
  | e :: r, ds, h, s, hs, hO => by
    unfold evsWith at h
    split at h
    · rename_i hp
      split at h
      · rename_i d hd
        split at h
        · rename_i ds' hds
          cases h
          intro Q E q
          refine wpAny_items_cons ?_ (by cases e <;> first | rfl | cases hp)
          refine hf _ _ hd s hs hO _ _ fun v s₁ x r => ?_
          exact evs_ok hf pos hds s₁ (hs.on k x) (hO.on x) _ _ fun vs s₂ y rs => q _ _ (x.tr y) (.cons (r.on y) rs)
        · cases h
      · cases h
    · cases h
theorem evk_ok {f : Expr → Option D} (hf : ∀ e d, f e = some d → EvOk prog w K B c A O W N L env e d) (pos : Pos) : ∀ {kws : List Keyword} {ks : List (Str × D)}, evkWith f kws = some ks → ∀ s, St K B O W N c.ρ L s → OLow O s →
    (backToKw pos (keywordEach kws env)).filterMap (·.1) = ks.map (·.1) ∧ (backToKw pos (keywordEach kws env)).all (·.1.isSome) = true ∧ GivesL prog w O A (evalAll ((backToKw pos (keywordEach kws env)).map (·.2))) s (ks.map (·.2))
  | [], ks, e, s, hs, hO => by
    cases e
    exact ⟨rfl, rfl, fun Q E q => kwAll_nil (q [] s (.refl _ _) .nil)⟩
  | ⟨some nm, e, p⟩ :: r, ks, h, s, hs, hO => by
    unfold evkWith at h
    split at h
    · rename_i d hd
      split at h
      · rename_i ds' hds
        cases h
        have ih := evk_ok hf pos hds
        refine ⟨?_, ?_, ?_⟩
        · have := (ih s hs hO).1
          show nm :: _ = _
          rw [List.map_cons]
          exact congrArg (nm :: ·) this
        · exact (ih s hs hO).2.1
        · intro Q E q
          refine kwAll_cons ?_
          refine hf _ _ hd s hs hO _ _ fun v s₁ x r => ?_
          exact (ih s₁ (hs.on k x) (hO.on x)).2.2 _ _ fun vs s₂ y rs => q _ _ (x.tr y) (.cons (r.on y) rs)
      · cases h
    · cases h
  | ⟨none, e, p⟩ :: r, ks, h, s, hs, hO => by cases h
end
end Mine
end
section
open PySem PySem.W PyProof.Rows
set_option maxRecDepth 100000
namespace Mine

theorem marks_plain {op : CmpOp} {r : Expr} (h : plainExpr r = true) : behindInMarks op r = false := by
  cases r <;> first | rfl | cases h
theorem base_plain {v : Expr} {a : Str} {env : Env} {t : Sem Value} (h : noSuper v = true) : attributeBase v a env t = t := by
  unfold attributeBase
  split
  · rename_i id _ pos
    have hid : (id != ("super" : Str)) = true := h
    rw [hid]
    rfl
  · rfl

theorem globD_ok (O : List Addr) (h : Heap) (v : Value) : Rep O h v (globD v) := by
  cases v <;> first | exact .glob _ | exact .notImpl
section
variable {prog : Program} {w : World} {K : Frag} {B : Nat} (k : Kok K B) {n : Nat} {c : PC} (ok : OpsOk prog w K B n c.ops) (hg : ∀ x v, c.glob x = some v → globIn K x = some v)
variable {A : Around} (hA : Room A n) {O W : List Addr} {N : Nat} {L : Addr} {env : Env} (he : EnvOk env L) (hsc : ScIs K env c.sc)

include k ok hA in
theorem bool_ok {f : Expr → Option D} (hf : ∀ e d, f e = some d → EvOk prog w K B c A O W N L env e d) (pos : Pos) (op : BoolOp) : ∀ {es : List Expr} {d : D}, boolWith f c.ops.tru op es = some d → ∀ s, St K B O W N c.ρ L s → OLow O s →
    Gives prog w O A (boolOp pos op (evalEach es env)) s d
  | [], d, h, s, hs, hO => by cases h
  | [e], d, h, s, hs, hO => hf e d h s hs hO
  | e :: e' :: r, d, h, s, hs, hO => by
    unfold boolWith at h
    split at h
    · rename_i d' hd
      split at h
      · rename_i t ht
        intro Q E q
        show wpAny (model prog w) A (boolOp pos op (eval e env :: evalEach (e' :: r) env)) Q E s
        refine wpAny_bind ?_
        refine hf e d' hd s hs hO _ _ fun v s₁ x rv => ?_
        refine wpAny_bind (wpAny_standAt (wpAny_bind (wpAny_holding ?_)))
        refine ok.tru ht hA (hs.on k x).inv (hO.on x) rv _ _ fun s₂ y => ?_
        have rv2 := rv.on y
        cases op <;> cases t
        · cases h; exact wpAny_pure (q _ _ (x.tr y) rv2)
        · exact bool_ok hf pos _ h s₂ (hs.on k (x.tr y)) (hO.on (x.tr y)) Q E fun v' s₃ z r' => q v' s₃ ((x.tr y).tr z) r'
        · exact bool_ok hf pos _ h s₂ (hs.on k (x.tr y)) (hO.on (x.tr y)) Q E fun v' s₃ z r' => q v' s₃ ((x.tr y).tr z) r'
        · cases h; exact wpAny_pure (q _ _ (x.tr y) rv2)
      · cases h
    · cases h
include k in
theorem all_ok {g : Expr → Option Bool} (hgt : ∀ e t, g e = some t → TvOk prog w K B c A O W N L env e t) (op : BoolOp) : ∀ {es : List Expr} {t : Bool}, allWith g op es = some t → ∀ s, St K B O W N c.ρ L s → OLow O s →
    GivesB prog w A (allTrue op es env) s t
  | [], t, h, s, hs, hO => by
    cases h
    exact fun Q E q => wpAny_pure (q s (.refl _ _))
  | e :: r, t, h, s, hs, hO => by
    unfold allWith at h
    split at h
    · rename_i t' ht
      intro Q E q
      have h0 := hgt e t' ht s hs hO
      cases op <;> cases t'
      · cases h; exact wpAny_allTrue_And_cons (h0 _ _ fun s₁ x => q s₁ x)
      · exact wpAny_allTrue_And_cons (h0 _ _ fun s₁ x => all_ok hgt _ h s₁ (hs.on k x) (hO.on x) Q E fun s₂ y => q s₂ (x.tr y))
      · exact wpAny_allTrue_Or_cons (h0 _ _ fun s₁ x => all_ok hgt _ h s₁ (hs.on k x) (hO.on x) Q E fun s₂ y => q s₂ (x.tr y))
      · cases h; exact wpAny_allTrue_Or_cons (h0 _ _ fun s₁ x => q s₁ x)
    · cases h

include k ok hA he hsc in
theorem rcv_ok {f : Expr → Option D} (hf : ∀ e d, f e = some d → EvOk prog w K B c A O W N L env e d) {e : Expr} {r : Rcv} (h : rcvWith c f e = some r) (s : Shared) (hs : St K B O W N c.ρ L s) (hO : OLow O s)
    (Q : Value → Shared → Prop) (E : Value → Shared → Prop) (q : ∀ v s', Stp [] s s' → RRep O s'.heap v r → Q v s') : wpAny (model prog w) A (eval e env) Q E s := by
  have plain : ∀ r, (f e).map Rcv.dat = some r → (∀ v s', Stp [] s s' → RRep O s'.heap v r → Q v s') → wpAny (model prog w) A (eval e env) Q E s := by
    intro r h q
    obtain ⟨d, hd, rfl⟩ := Option.map_eq_some_iff.mp h
    exact hf e d hd s hs hO Q E q
  unfold rcvWith at h
  split at h
  · rename_i x C fs y hown hy
    split at h
    · rename_i hxy
      subst hxy
      split at h
      · rename_i hc
        cases h
        cases e <;> try (cases hy)
        obtain ⟨m, hn, hv, ho⟩ := hs.loc.ns
        rw [hown] at ho
        obtain ⟨a, dx, es, m', h1, h2, h3, h4, h0, h5, h6, h7⟩ := ho
        exact wpAny_Name (wpAny_loadName_local he.kind (by show env.scope.names.lookup _ = _; rw [hsc.eq]; exact hc.2) (he.loc ▸ hn) h1 (q _ s (.refl _ _) ⟨a, dx, es, m', rfl, h0, h5, h6, h7⟩)) hc.1
      · cases h
    · exact plain r h q
  · exact plain r h q

theorem evs_plain {f : Expr → Option D} {env : Env} {pos : Pos} : ∀ {es : List Expr} {ds : List D}, evsWith f es = some ds → (backTo pos (starEach es env)).any (·.1) = false ∧ (backTo pos (starEach es env)).all (fun x => !x.1) = true
  | [], _, _ => ⟨rfl, rfl⟩
  | e :: r, ds, h => by
    unfold evsWith at h
    split at h
    · rename_i hp
      split at h
      · split at h
        · rename_i ds' hds
          have ih := evs_plain (env := env) (pos := pos) hds
          have : starEach (e :: r) env = (false, eval e env) :: starEach r env := by cases e <;> first | rfl | cases hp
          rw [this]
          exact ⟨ih.1, ih.2⟩
        · cases h
      · cases h
    · cases h
theorem kws_plain {f : Expr → Option D} {env : Env} {pos : Pos} : ∀ {kws : List Keyword} {ks : List (Str × D)}, evkWith f kws = some ks → (backToKw pos (keywordEach kws env)).any (·.1.isNone) = false ∧ (backToKw pos (keywordEach kws env)).all (·.1.isSome) = true
  | [], _, _ => ⟨rfl, rfl⟩
  | ⟨some nm, e, p⟩ :: r, ks, h => by
    unfold evkWith at h
    split at h
    · split at h
      · rename_i ds' hds
        have ih := kws_plain (env := env) (pos := pos) hds
        exact ⟨ih.1, ih.2⟩
      · cases h
    · cases h
  | ⟨none, e, p⟩ :: r, ks, h => by cases h
theorem few_ok {f : Expr → Option D} {env : Env} {pos : Pos} {es : List Expr} {ds : List D} {kws : List Keyword} {ks : List (Str × D)} (h : evsWith f es = some ds) (h' : evkWith f kws = some ks) (hc : callOk es.length kws = true) :
    methodCallForm (es.length + kws.length) (backTo pos (starEach es env)) (backToKw pos (keywordEach kws env)) = true := by
  unfold methodCallForm
  rw [(evs_plain h).2, (kws_plain h').2]
  have := of_decide_eq_true hc
  simp only [Bool.true_and]
  exact decide_eq_true (by split <;> omega)

include k in
theorem callWith_ok {f : Expr → Option D} (hf : ∀ e d, f e = some d → EvOk prog w K B c A O W N L env e d) {pos : Pos} {es : List Expr} {ds : List D} {kws : List Keyword} {ks : List (Str × D)} (h : evsWith f es = some ds) (h' : evkWith f kws = some ks)
    {g : Value} {first : List Value} {d : D} {s : Shared} (hs : St K B O W N c.ρ L s) (hO : OLow O s) (hc : CalleeOk prog w O A s g first ds ks d) :
    Gives prog w O A (callWith pos g first (backTo pos (starEach es env)) (backToKw pos (keywordEach kws env))) s d := by
  intro Q E q
  have pl : ((backTo pos (starEach es env)).any (·.1) || (backToKw pos (keywordEach kws env)).any (·.1.isNone)) = false := by rw [(evs_plain h).1, (kws_plain h').1]; rfl
  refine callWith_of (P := fun h => ∃ k, (k = Keeper.frame ∨ k = Keeper.machine ∨ k = Keeper.boundFrame) ∧ Looks (model prog w) h (keeperOf g) k) pl (fun _ x => x) ?_
  have main : wpAny (model prog w) A (spliced (backTo pos (starEach es env))) (fun vs s₁ => wpAny (model prog w) A (evalAll ((backToKw pos (keywordEach kws env)).map (·.2)))
      (fun ws s₂ => (∃ k, (k = Keeper.frame ∨ k = Keeper.machine ∨ k = Keeper.boundFrame) ∧ Looks (model prog w) s₂.heap (keeperOf g) k) ∧ wpAny (model prog w) A (call g (first ++ vs) (((backToKw pos (keywordEach kws env)).filterMap (·.1)).zip ws)) Q E s₂) E s₁) E s := by
    refine evs_ok k hf pos h s hs hO _ _ fun vs s₁ x rs => ?_
    have z := evk_ok k hf pos h' s₁ (hs.on k x) (hO.on x)
    refine z.2.2 _ _ fun ws s₂ y rk => ?_
    have cc := hc s₂ (x.tr y)
    refine ⟨cc.1, ?_⟩
    rw [z.1]
    exact cc.2 vs ws (rs.on y) rk Q E fun v s₃ u r => q v s₃ ((x.tr y).tr u) r
  cases es with
  | nil => exact evalArgs_kw2_nil (kws_plain h').2 (by
      have : wpAny (model prog w) A (spliced (backTo pos (starEach [] env))) _ E s := main
      have e : spliced (backTo pos (starEach [] env)) = pure [] := rfl
      rw [e] at this
      intro Γ p hΓ
      have z := this Γ p hΓ
      rw [Sem.wp_pure'] at z
      exact z Γ p hΓ)
  | cons e r =>
    refine evalArgs_kw2 (kws_plain h').2 main ?_
    unfold evsWith at h
    split at h
    · rename_i hp
      cases e <;> first | rfl | cases hp
    · cases h

include k ok hA in
theorem part_ok {f : Expr → Option D} (hf : ∀ e d, f e = some d → EvOk prog w K B c A O W N L env e d) {e : Expr} {x : Str} (h : partJ c.ops.fmtS f e = some x) (s : Shared) (hs : St K B O W N c.ρ L s) (hO : OLow O s)
    {Q : Value → Shared → Prop} {E : Value → Shared → Prop} (q : ∀ v s' t, Stp [] s s' → v = .str x t → Q v s') : wpAny (model prog w) A (eval e env) Q E s := by
  unfold partJ at h
  split at h
  · split at h
    · cases h
      exact wpAny_Constant_str (q _ _ _ (.fresh s 1) rfl)
    · cases h
  · split at h
    · rename_i hk
      subst hk
      obtain ⟨a, ha, hx⟩ := Option.bind_eq_some_iff.mp h
      refine wpAny_FormattedValue_s (hf _ _ ha s hs hO _ _ fun va s₁ x₁ ra => ?_)
      have hlen := (ok.fmt (O := O) hx hA (hs.on k x₁).inv (hO.on x₁) ra (fun _ _ => True) (fun _ _ => True) fun _ _ _ _ _ => trivial).1
      refine (ok.fmt hx hA (hs.on k x₁).inv (hO.on x₁) ra _ _ fun v' s₂ t x₂ e => ?_).2
      subst e
      have hz : x.length ≤ sizeLine := Nat.le_trans hlen (by decide)
      exact wpAny_formatField_str (hx := hz) (q _ _ _ (x₁.tr x₂) rfl) (q _ _ _ (x₁.tr (x₂.tr (.fresh s₂ 1))) rfl)
    · cases h
  · cases h
include k ok hA in
theorem parts_ok {f : Expr → Option D} (hf : ∀ e d, f e = some d → EvOk prog w K B c A O W N L env e d) : ∀ {es : List Expr} {y out : Str} (s : Shared), partsJ c.ops.fmtS f es = some y → out.length + y.length ≤ sizeLine → St K B O W N c.ρ L s → OLow O s → ∀ {Q : Value → Shared → Prop} {E : Value → Shared → Prop},
    (∀ v s' t, Stp [] s s' → v = .str (out ++ y) t → Q v s') → wpAny (model prog w) A (joinParts out (evalEach es env)) Q E s
  | [], y, out, s, h, hz, hs, hO, Q, E, q => by
    cases h
    have hz' : out.length ≤ sizeLine := by omega
    exact joinParts_nil (hsz := hz') (q _ _ _ (.fresh s 1) (by rw [Str.append_empty]))
  | e :: r, y, out, s, h, hz, hs, hO, Q, E, q => by
    unfold partsJ at h
    split at h
    · rename_i x hx
      split at h
      · rename_i y' hy
        split at h
        · rename_i hl
          cases h
          rw [Str.length_append] at hz
          show wpAny _ A (joinParts out (eval e env :: evalEach r env)) Q E s
          refine joinParts_cons (part_ok k ok hA hf hx s hs hO fun v s₁ t x₁ e' => ?_)
          subst e'
          refine ⟨by rw [Str.length_append]; omega, parts_ok hf s₁ hy (by rw [Str.length_append]; omega) (hs.on k x₁) (hO.on x₁) fun v s₂ t' x₂ e' => q v s₂ t' (x₁.tr x₂) (by rw [e', Str.append_assoc])⟩
        · cases h
      · cases h
    · cases h

theorem partsJ_len {fm : D → Option Str} {f : Expr → Option D} : ∀ {es : List Expr} {y : Str}, partsJ fm f es = some y → y.length ≤ 5000
  | [], y, h => by cases h; decide
  | e :: r, y, h => by
    unfold partsJ at h
    split at h
    · split at h
      · split at h
        · rename_i hl
          cases h
          rw [Str.length_append]; exact hl
        · cases h
      · cases h
    · cases h
include k ok hg hA he hsc in
theorem evStep_ok {f : Expr → Option D} {g : Expr → Option Bool} (hf : ∀ e d, f e = some d → EvOk prog w K B c A O W N L env e d) (hgt : ∀ e t, g e = some t → TvOk prog w K B c A O W N L env e t) :
    ∀ e d, evStep c f g e = some d → EvOk prog w K B c A O W N L env e d := by
  intro e d h s hs hO
  unfold evStep at h
  split at h
  · -- constant
    rename_i cst kd pos
    intro Q E q
    unfold litD at h
    split at h
    · cases h; exact wpAny_Constant_none (q _ s (.refl _ _) .none)
    · cases h; exact wpAny_Constant_bool (q _ s (.refl _ _) (.bool _))
    · cases h; exact wpAny_Constant_int (q _ _ (.fresh s 1) (.int _ _))
    · split at h
      · rename_i hx
        cases h; exact wpAny_Constant_str (q _ _ (.fresh s 1) (.str _ _ (Nat.le_trans hx (by decide))))
      · cases h
    · cases h
  · -- name
    rename_i x pos
    unfold nameD at h
    split at h
    · cases h
    · rename_i hd
      have hd : (x == ("__debug__" : Str)) = false := by simpa using hd
      split at h
      · rename_i hk
        exact gives_local he hs (by rw [hsc.eq]; exact hk) hd h
      · rename_i hk
        obtain ⟨v, hv, rfl⟩ := Option.map_eq_some_iff.mp h
        intro Q E q
        exact gives_global he hs.inv (by rw [hsc.eq]; exact hk) hd (hg _ _ hv) (q _ s (.refl _ _) (globD_ok _ _ v))
      · cases h
  · -- and, or
    rename_i op es pos
    exact bool_ok k ok hA hf pos op h s hs hO
  · -- binary
    rename_i l op r pos
    split at h
    · rename_i a ha
      split at h
      · rename_i b hb
        intro Q E q
        refine wpAny_BinOp (hf _ _ ha s hs hO _ _ fun va s₁ x ra => hf _ _ hb s₁ (hs.on k x) (hO.on x) _ _ fun vb s₂ y rb => ?_)
        exact ok.bin h hA (hs.on k (x.tr y)).inv (hO.on (x.tr y)) (ra.on y) rb Q E fun v s₃ z r => q v s₃ ((x.tr y).tr z) r
      · cases h
    · cases h
  · -- not
    rename_i op x pos
    split at h
    · split at h
      · rename_i a ha
        obtain ⟨t, ht, rfl⟩ := Option.map_eq_some_iff.mp h
        intro Q E q
        refine wpAny_UnaryOp (hf _ _ ha s hs hO _ _ fun va s₁ x ra => not_value ?_)
        exact ok.tru ht hA (hs.on k x).inv (hO.on x) ra _ _ fun s₂ y => q _ _ (x.tr y) (.bool _)
      · cases h
    · cases h
  · -- conditional
    rename_i t b o pos
    intro Q E q
    refine wpAny_IfExp ?_
    split at h
    · rename_i ht
      exact hgt _ _ ht s hs hO _ _ fun s₁ x => hf _ _ h s₁ (hs.on k x) (hO.on x) Q E fun v s₂ y r => q v s₂ (x.tr y) r
    · rename_i ht
      exact hgt _ _ ht s hs hO _ _ fun s₁ x => hf _ _ h s₁ (hs.on k x) (hO.on x) Q E fun v s₂ y r => q v s₂ (x.tr y) r
    · cases h
  · -- comparison
    rename_i l ops rs pos
    split at h
    · rename_i op r
      split at h
      · rename_i hp
        split at h
        · rename_i a ha
          split at h
          · rename_i b hb
            intro Q E q
            refine wpAny_Compare1 (hf _ _ ha s hs hO _ _ fun va s₁ x ra => hf _ _ hb s₁ (hs.on k x) (hO.on x) _ _ fun vb s₂ y rb => ?_) (marks_plain hp)
            exact ok.cmp h hA (hs.on k (x.tr y)).inv (hO.on (x.tr y)) (ra.on y) rb Q E fun v s₃ z r => q v s₃ ((x.tr y).tr z) r
          · cases h
        · cases h
      · cases h
    · cases h
  · -- tuple
    rename_i es kd pos
    obtain ⟨ds, hds, h⟩ := Option.bind_eq_some_iff.mp h
    split at h
    · rename_i hl
      cases h
      intro Q E q
      refine wpAny_Tuple (evs_ok k hf pos hds s hs hO _ _ fun vs s₁ x rs => ⟨by rw [rs.length]; exact Nat.le_trans hl (by decide), ?_⟩)
      have x' := x.tr (Stp.push s₁ { cls := .type "tuple", data := .seq vs.toArray })
      refine q _ _ x' (.tup (o := { cls := .type "tuple", data := .seq vs.toArray }) (n := 0) (fun hm => absurd (hO.on x _ hm) (Nat.lt_irrefl _)) (Heap.get?_push_size _ rfl) rfl rfl (rs.on (Stp.push s₁ _)))
    · cases h
  · -- list
    rename_i es pos
    obtain ⟨ds, hds, h⟩ := Option.bind_eq_some_iff.mp h
    split at h
    · rename_i hl
      cases h
      intro Q E q
      refine wpAny_List (evs_ok k hf pos hds s hs hO _ _ fun vs s₁ x rs => ⟨by rw [rs.length]; exact Nat.le_trans hl (by decide), ?_⟩)
      have x' := x.tr (Stp.push s₁ { cls := .type "list", data := .seq vs.toArray })
      refine q _ _ x' (.list (o := { cls := .type "list", data := .seq vs.toArray }) (n := 0) (fun hm => absurd (hO.on x _ hm) (Nat.lt_irrefl _)) (Heap.get?_push_size _ rfl) rfl rfl (rs.on (Stp.push s₁ _)))
    · cases h
  · -- attribute
    rename_i v a pos
    split at h
    · rename_i hp
      split at h
      · rename_i r hr
        intro Q E q
        rw [arm_eval_Attribute, base_plain hp]
        refine wpAny_bind (rcv_ok k ok hA he hsc hf hr s hs hO _ _ fun va s₁ x ra => wpAny_bind (wpAny_standAt (wpAny_bind (wpAny_holding ?_))))
        refine ok.attr h hA (hs.on k x).inv (hO.on x) ra _ _ fun vb s₂ y rb => wpAny_bind (wpAny_letTemporaryGo (wpAny_pure (q _ _ (x.tr y) rb)))
      · cases h
    · cases h
  · -- subscript
    rename_i v i pos
    split at h
    · rename_i u hu
      obtain ⟨sp, rfl⟩ := cutOf_inv hu
      split at h
      · rename_i a ha
        split at h
        · rename_i b hb
          intro Q E q
          refine Subscript_ (hf _ _ ha s hs hO _ _ fun va s₁ x ra => ?_)
          rw [arm_eval_Slice]
          refine wpAny_bind (wpAny_pure (wpAny_bind (wpAny_holding (hf _ _ hb s₁ (hs.on k x) (hO.on x) _ _ fun vb s₂ y rb => wpAny_bind (wpAny_holding (wpAny_pure ?_))))))
          refine wpAny_newObj_type ?_
          have z := Stp.push s₂ { cls := .type "slice", data := .fields [Value.none, vb, Value.none].toArray }
          have xyz := (x.tr y).tr z
          exact ok.cut h v u sp hA (hs.on k xyz).inv (hO.on xyz) (Heap.get?_push_size _ rfl) ((ra.on y).on z) (rb.on z) Q E fun v s₃ z' r => q v s₃ (xyz.tr z') r
        · cases h
      · cases h
    · rename_i hns
      split at h
      · cases h
      · rename_i hsl
        split at h
        · rename_i a ha
          split at h
          · rename_i b hb
            intro Q E q
            refine Subscript_ (hf _ _ ha s hs hO _ _ fun va s₁ x ra => hf _ _ hb s₁ (hs.on k x) (hO.on x) _ _ fun vb s₂ y rb => ?_)
            exact ok.item h v i hA (hs.on k (x.tr y)).inv (hO.on (x.tr y)) (by simpa using hsl) (ra.on y) rb Q E fun v s₃ z r => q v s₃ ((x.tr y).tr z) r
          · cases h
        · cases h
  · -- call
    rename_i fn es kws pos
    split at h
    · rename_i v a apos
      split at h
      · rename_i hp
        simp only [Bool.and_eq_true] at hp
        split at h
        · rename_i r hr
          split at h
          · rename_i ds hds
            split at h
            · rename_i ks hks
              intro Q E q
              rw [arm_eval_Call, base_plain hp.1.1]
              refine wpAny_bind (rcv_ok k ok hA he hsc hf hr s hs hO _ _ fun va s₁ x ra => wpAny_bind (wpAny_standAt ?_))
              unfold methodCall
              rw [few_ok hds hks hp.1.2]
              refine wpAny_bind (wpAny_holding ?_)
              show wpAny _ _ (getMethod va a _) _ _ _
              refine ok.meth h hA (hs.on k x).inv (hO.on x) ra _ _ _ fun f first s₂ y cc => ?_
              have : methodCallPos true v env apos pos = pure pos := by
                unfold methodCallPos
                rw [hp.2]
                rfl
              rw [this]
              refine wpAny_bind (wpAny_pure ?_)
              exact callWith_ok k hf hds hks (hs.on k (x.tr y)) (hO.on (x.tr y)) cc Q E fun v s₃ z r => q v s₃ ((x.tr y).tr z) r
            · cases h
          · cases h
        · cases h
      · cases h
    · rename_i hn hp
      split at h
      · rename_i elt x xp it sc gp hgen
        obtain ⟨rfl, rfl⟩ := genOf_inv hgen
        split at h
        · rename_i hxy
          split at h
          · rename_i a ha
            exact ok.gens h hA he hsc hs hO hxy.1 (by
              have := hxy.2
              unfold isTupT at this
              split at this
              · rename_i t e; rw [beq_iff_eq] at this; rw [this] at e; exact hg _ _ e
              · cases this) fun s' x => hf _ _ ha s' (hs.on k x) (hO.on x)
          · cases h
        · cases h
      · split at h
        · rename_i hp
          split at h
          · rename_i fd hfd
            split at h
            · rename_i ds hds
              split at h
              · rename_i ks hks
                intro Q E q
                rw [arm_eval_Call_Name']
                refine wpAny_bind (hf _ _ hfd s hs hO _ _ fun va s₁ x ra => ?_)
                exact callWith_ok k hf hds hks (hs.on k x) (hO.on x) (ok.call h hA (hs.on k x).inv (hO.on x) ra) Q E fun v s₃ z r => q v s₃ (x.tr z) r
              · cases h
            · cases h
          · cases h
        · cases h
    · cases h
  · -- an f-string
    rename_i es pos
    split at h
    · rename_i v₁ v₂ r
      obtain ⟨y, hy, rfl⟩ := Option.map_eq_some_iff.mp h
      intro Q E q
      have hlen := partsJ_len hy
      have hz : y.length ≤ sizeLine := Nat.le_trans hlen (by decide)
      refine JoinedStr_many ?_
      exact parts_ok (es := v₁ :: v₂ :: r) (out := Str.empty) k ok hA hf s hy (by show 0 + y.length ≤ _; omega) hs hO fun v s' t x e => by
        subst e
        rw [Str.empty_append]
        exact q _ _ x (.str _ _ hz)
    · cases h
  · -- the texts of a tuple
    rename_i elt gens sc pos
    split at h
    · rename_i hn hp x xp cp y yp it heq
      obtain ⟨rfl, rfl⟩ := textOf_inv heq
      split at h
      · rename_i hxy
        split at h
        · rename_i a ha
          exact ok.texts h hA he hs hO hxy.1 hxy.2.1 hxy.2.2.1 (by
            have := hxy.2.2.2
            unfold isStrT at this
            split at this
            · rename_i t e; rw [beq_iff_eq] at this; rw [this] at e; exact hg _ _ e
            · cases this) fun s' x => hf _ _ ha s' (hs.on k x) (hO.on x)
        · cases h
      · cases h
    · cases h
  · cases h

include k ok hA he hsc in
theorem tvStep_ok {f : Expr → Option D} {g : Expr → Option Bool} (hf : ∀ e d, f e = some d → EvOk prog w K B c A O W N L env e d) (hgt : ∀ e t, g e = some t → TvOk prog w K B c A O W N L env e t) :
    ∀ e t, tvStep c f g e = some t → TvOk prog w K B c A O W N L env e t := by
  intro e t h s hs hO
  unfold tvStep at h
  split at h
  · rename_i x pos
    obtain ⟨t', ht, rfl⟩ := Option.map_eq_some_iff.mp h
    exact fun Q E q => wpAny_isTrue_Not (hgt _ _ ht s hs hO _ _ q)
  · rename_i op es pos
    exact fun Q E q => wpAny_isTrue_BoolOp (all_ok k hgt op h s hs hO Q E q)
  · rename_i t' b o pos
    intro Q E q
    rw [arm_isTrue_IfExp]
    split at h
    · rename_i ht
      exact wpAny_bind (hgt _ _ ht s hs hO _ _ fun s₁ x => hgt _ _ h s₁ (hs.on k x) (hO.on x) Q E fun s₂ y => q s₂ (x.tr y))
    · rename_i ht
      exact wpAny_bind (hgt _ _ ht s hs hO _ _ fun s₁ x => hgt _ _ h s₁ (hs.on k x) (hO.on x) Q E fun s₂ y => q s₂ (x.tr y))
    · cases h
  · rename_i l op r pos
    split at h
    · rename_i hp
      split at h
      · rename_i a ha
        split at h
        · rename_i b hb
          obtain ⟨d, hd, ht⟩ := Option.bind_eq_some_iff.mp h
          intro Q E q
          refine wpAny_isTrue_Compare1 (hf _ _ ha s hs hO _ _ fun va s₁ x ra => hf _ _ hb s₁ (hs.on k x) (hO.on x) _ _ fun vb s₂ y rb => ?_) (marks_plain hp)
          refine ok.cmp hd hA (hs.on k (x.tr y)).inv (hO.on (x.tr y)) (ra.on y) rb _ _ fun v s₃ z r => ?_
          have xyz := (x.tr y).tr z
          exact ok.tru ht hA (hs.on k xyz).inv (hO.on xyz) r Q E fun s₄ u => q s₄ (xyz.tr u)
        · cases h
      · cases h
    · cases h
  · cases h
  · rename_i h1 h2 h3 h4 h5
    obtain ⟨d, hd, ht⟩ := Option.bind_eq_some_iff.mp h
    intro Q E q
    have main : wpAny (model prog w) A (eval e env) (fun v s₁ => wpAny (model prog w) A (truthy v) Q E s₁) E s :=
      hf _ _ hd s hs hO _ _ fun v s₁ x r => ok.tru ht hA (hs.on k x).inv (hO.on x) r Q E fun s₂ y => q s₂ (x.tr y)
    refine wpAny_isTrue_value main ?_
    cases e <;> first | rfl | exact (h5 _ _ _ _ rfl).elim | exact (h2 _ _ _ rfl).elim | exact (h3 _ _ _ _ rfl).elim | skip
    rename_i op x pos
    cases op <;> first | rfl | exact (h1 _ _ rfl).elim

include k ok hg hA he hsc in
theorem both_ok (m : Nat) : (∀ e d, (both c m).1 e = some d → EvOk prog w K B c A O W N L env e d) ∧ (∀ e t, (both c m).2 e = some t → TvOk prog w K B c A O W N L env e t) := by
  induction m with
  | zero =>
    constructor
    · intro e d h; cases h
    · intro e t h; cases h
  | succ m ih => exact ⟨evStep_ok k ok hg hA he hsc ih.1 ih.2, tvStep_ok k ok hA he hsc ih.1 ih.2⟩
include k ok hg hA he hsc in
theorem ev_ok {m : Nat} {e : Expr} {d : D} (h : ev c m e = some d) : EvOk prog w K B c A O W N L env e d := (both_ok k ok hg hA he hsc m).1 e d h
include k ok hg hA he hsc in
theorem tv_ok {m : Nat} {e : Expr} {t : Bool} (h : tv c m e = some t) : TvOk prog w K B c A O W N L env e t := (both_ok k ok hg hA he hsc m).2 e t h
end
end Mine
end
section
open PySem PySem.W PyProof.Rows
set_option maxRecDepth 100000
namespace Mine

/-- two steps, what came anew cut off -/
theorem Stp.seq {W V : List Addr} {s s' s'' : Shared} (x : Stp W s s') (y : Stp V s' s'') (h : ∀ a ∈ V, a ∈ W ∨ s.heap.objs.size ≤ a) : Stp W s s'' :=
  (x.trans y).cut fun u hu => (List.mem_append.mp hu).elim .inl (h u)
theorem Stp.wide {W : List Addr} {s s' : Shared} (x : Stp [] s s') : Stp W s s' := x.mono (by simp)

/-- library rules that end in a grown heap -/
theorem Stp.ext {s : Shared} {h : Heap} {t : Nat} (he : Heap.ExtBut s.heap.objs.size s.heap h) (u : Up s { s with heap := h, toks := t }) : Stp [] s { s with heap := h, toks := t } :=
  .grow u.1 (fun b o e => he b o (Nat.ne_of_lt (Heap.lt_size e)) e) u.2
theorem Stp.sameUp {s : Shared} {h : Heap} {t : Nat} {a : Addr} (he : Heap.ExtBut a s.heap h) (u : Up s { s with heap := h, toks := t }) (old : ∀ H : Heap, H.objs.size ≤ a → OldK H s.heap → OldK H h) : Stp [a] s { s with heap := h, toks := t } where
  size := u.1
  keep b o e _ hu := he b o (by simpa using hu) e
  old H _ hH _ x := old H (hH a (.head _)) x
  tok := u.2
  os := rfl
  gens := .refl _
  tabs P h t := t.kept fun o e => he P o (by simpa using h) e
theorem oldK_ext {H h h' : Heap} {a : Addr} (ha : H.objs.size ≤ a) (he : Heap.ExtBut a h h') (K : OldK H h) : OldK H h' := by
  have ne : ∀ b o, H.get? b = some o → b ≠ a := fun b o e => Nat.ne_of_lt (Nat.lt_of_lt_of_le (Heap.lt_size e) ha)
  refine ⟨fun b o e => ?_, fun b o e => ?_⟩
  · rcases K.old b o e with x | ⟨t, hc, vs, more, hv, x⟩ | ⟨rfl, hc, ⟨o', es, n, ho', r⟩, z⟩
    · exact .inl (he b o (ne b o e) x)
    · exact .inr (.inl ⟨t, hc, vs, more, hv, he b _ (ne b o e) x⟩)
    · have q := he _ _ (ne _ o e) ho'
      exact .inr (.inr ⟨rfl, hc, ⟨o', es, n, q, r⟩, fun key => by rw [OldK.staticOf_congr (q.trans ho'.symm) key]; exact z key⟩)
  · obtain ⟨o', ho'⟩ := K.there b o e
    exact ⟨o', he b o' (ne b o e) ho'⟩
theorem Stp.extBut {s : Shared} {h : Heap} {t : Nat} {a : Addr} (he : Heap.ExtBut a s.heap h) (u : Up s { s with heap := h, toks := t }) : Stp [a] s { s with heap := h, toks := t } :=
  .sameUp he u fun _ ha x => oldK_ext ha he x

noncomputable def setv (ρ : PE) (x : Str) (d : D) : PE := { ρ with vars := (x, d) :: ρ.vars }
noncomputable def Own.name : Own → Option Str
  | .none => Option.none
  | .lst x _ => some x
  | .inst x _ _ => some x
noncomputable def freeze (ρ : PE) : PE := match ρ.own with
  | .lst x l => ⟨(x, .list l) :: ρ.vars, .none⟩
  | _ => ⟨ρ.vars, .none⟩
noncomputable def putF (x : Str) (d : D) : List (Str × D) → List (Str × D)
  | [] => [(x, d)]
  | (y, e) :: r => if y = x then (y, d) :: r else (y, e) :: putF x d r

theorem RepF.put {O : List Addr} {h : Heap} {x : Str} {hsh : Int} {t : Tok} {v : Value} {d : D} (r : Rep O h v d) : ∀ {es : List DictEntry} {fs : List (Str × D)}, RepF O h es fs → RepF O h (putL x hsh (.str x t) v es) (putF x d fs)
  | _, _, .nil => .cons r .nil
  | _, _, .cons (n := n) a b => by
    unfold putL putF
    show RepF _ _ (if (Value.isStr (.str n _) x) = true then _ else _) (if n = x then _ else _)
    by_cases hn : n = x
    · rw [if_pos hn, if_pos (by simp [Value.isStr, hn])]
      exact .cons r b
    · rw [if_neg hn, if_neg (by simp [Value.isStr, hn])]
      exact .cons a (RepF.put r b)

/-- what may be stored into an object under construction -/
noncomputable def settable (K : Frag) (C : Addr) (x : Str) : Bool :=
  findIn K (.ref C) "__setattr__" == some (some (.builtin "object.__setattr__")) && plainOver K C && takerIn K C x == some none && hasDictIn K C
theorem RepF.strKeys {O : List Addr} {h : Heap} : ∀ {es : List DictEntry} {fs : List (Str × D)}, RepF O h es fs → es.any (·.refKey) = false
  | _, _, .nil => rfl
  | _, _, .cons a b => by
    rw [List.any_cons, b.strKeys]; rfl
theorem RepF.len {O : List Addr} {h : Heap} : ∀ {es : List DictEntry} {fs : List (Str × D)}, RepF O h es fs → es.length = fs.length
  | _, _, .nil => rfl
  | _, _, .cons a b => congrArg (· + 1) b.len
theorem putL_len (x : Str) (hsh : Int) (key v : Value) : ∀ es : List DictEntry, (putL x hsh key v es).length ≤ es.length + 1
  | [] => Nat.le_refl _
  | e :: r => by
    unfold putL
    split
    · simp
    · have := putL_len x hsh key v r
      simp only [List.length_cons]; omega

section
variable {prog : Program} {w : World} {K : Frag} {A : Around} {s : Shared}
theorem setAttr_ok {a dx C : Addr} {es : List DictEntry} {n : Nat} {x : Str} {v : Value} {fs : List (Str × D)} {O : List Addr} {Q : Unit → Shared → Prop} {E : Value → Shared → Prop} (X : K.In s.heap) (h1 : s.heap.get? a = some (instObj C dx)) (h2 : s.heap.get? dx = some (dictOf es n))
    (rf : RepF O s.heap es fs) (hz : fs.length ≤ 100) (hs : settable K C x = true)
    (q : ∀ s' n' t, Stp [dx] s s' → s'.heap.get? dx = some (dictOf (putL x (PyData.keyHash w.params x) (.str x t) v es) n') → Q () s') : wpAny (model prog w) A (setAttr (.ref a) x v) Q E s := by
  unfold settable at hs
  simp only [Bool.and_eq_true, beq_iff_eq] at hs
  obtain ⟨⟨⟨hs, hp⟩, ht⟩, hh⟩ := hs
  have I : InstAt s.heap a (instObj C dx) C (some (dictOf es n)) := ⟨h1, rfl, rfl, h2⟩
  refine set_plain X I hs (osa_open (s := { s with toks := s.toks + 1 }) X I hp ht fun b => ?_)
  obtain ⟨cd, hc, hd'⟩ := any_some hh
  refine wpAny_bind (wpAny_pure (wpAny_bind (wpAny_bind (wpAny_loadPart h1 (wpAny_bind (looks_clsIn X hc _ _ _ _ (fun _ _ e => e) ?_))))))
  rw [hd']
  refine wpAny_pure (a := some dx) (wpAny_bind (wpAny_pure (wpAny_bind ?_)))
  unfold nsSet
  refine wpAny_bind (wpAny_bind (wpAny_askSetting (wpAny_pure (wpAny_bind (wpAny_mkText (wpAny_bind (wpAny_loadPart h2 ?_)))))))
  dsimp only
  have c : (!es.toArray.any (·.key.isStr x) && es.toArray.any (·.refKey)) = false := by
    have := rf.strKeys
    simp only [List.any_toArray, this, Bool.and_false]
  rw [aRefKeyMayBeTheName_at, c]
  have e := putName_dict x (PyData.keyHash w.params x) (.str x (s.toks + 1)) v es n
  have g : ∀ f : Obj → Obj, f (dictOf es n) = dictOf (putL x (PyData.keyHash w.params x) (.str x (s.toks + 1)) v es) (putN x es n) → (s.heap.update dx f).get? dx = some (dictOf (putL x (PyData.keyHash w.params x) (.str x (s.toks + 1)) v es) (putN x es n)) := fun f hf => by
    rw [← hf]
    exact Heap.get?_update_self f h2 (by rw [hf]; rfl)
  refine wpAny_updatePart h2 ?_
  refine wpAny_bind (wpAny_lookBehind (g _ e) (pastItsLine_dict (by rw [List.size_toArray, sizeLine_eq]; have := putL_len x (PyData.keyHash w.params x) (.str x (s.toks + 1)) v es; have := rf.len; omega)) ?_)
  refine wpAny_pure ?_
  exact q _ _ _ (Stp.same (t := s.toks + 1 + 1) (Heap.SameBut.update ..) (by omega)) (g _ e)
end
end Mine
end
section
open PySem PySem.W PyProof.Rows
set_option maxRecDepth 100000
namespace Mine

inductive PFlow where
  | next
  | brk
  | cont
  | ret (d : D)

structure FC where
  sc : Scope
  glob : Str → Option Value
  ops : Ops
  /-- sums of lists, where the name is to hold the one list that the function alone may turn -/
  ownv : Option Str
  setOk : Addr → Str → Bool
  fuel : Nat
noncomputable def FC.pc (c : FC) (ρ : PE) : PC := ⟨c.sc, ρ, c.glob, c.ops⟩

noncomputable def isLocal (c : FC) (x : Str) : Bool := c.sc.names.lookup x == some .local
/-- a name that may be stored: a local, not the one that holds what is one's own -/
noncomputable def storable (c : FC) (ρ : PE) (x : Str) : Bool := isLocal c x && ρ.own.name != some x
noncomputable def setAll (c : FC) (ρ : PE) : List Expr → List D → Option PE
  | [], [] => some ρ
  | .Name x _ :: ts, d :: ds => if storable c ρ x then setAll c (setv ρ x d) ts ds else none
  | _, _ => none
noncomputable def bindT (c : FC) (ρ : PE) : Expr → D → Option PE
  | .Name x _, d => if storable c ρ x then some (setv ρ x d) else none
  | .Tuple ts _ _, .tup ds => setAll c ρ ts ds
  | .Tuple ts _ _, .list ds => setAll c ρ ts ds
  | _, _ => none
noncomputable def notTuple : Expr → Bool
  | .Tuple .. => false
  | _ => true
noncomputable def addL : D → D → Option (List D)
  | .list a, .list b => if a.length + b.length ≤ 1000 then some (a ++ b) else none
  | _, _ => none
noncomputable def evFresh (c : FC) (ρ : PE) : Expr → Option (List D)
  | .List es _ => (evsWith (ev (c.pc ρ) c.fuel) es).bind fun ds => if ds.length ≤ 1000 then some ds else none
  | .BinOp l .Add r _ => (ev (c.pc ρ) c.fuel l).bind fun a => (ev (c.pc ρ) c.fuel r).bind fun b => addL a b
  | _ => none
noncomputable def loopWith (c : FC) (tgt : Expr) (body : PE → Option (PFlow × PE)) : List D → PE → Option (PFlow × PE)
  | [], ρ => some (.next, ρ)
  | d :: ds, ρ => match bindT c ρ tgt d with
    | some ρ₁ => match body ρ₁ with
      | some (.next, ρ₂) => loopWith c tgt body ds ρ₂
      | some (.cont, ρ₂) => loopWith c tgt body ds ρ₂
      | some (.brk, ρ₂) => some (.next, ρ₂)
      | some (.ret d, ρ₂) => some (.ret d, ρ₂)
      | none => none
    | none => none
noncomputable def rangeD : Nat → Nat → List D
  | _, 0 => []
  | i, n + 1 => .int i :: rangeD (i + 1) n
noncomputable def globIs (c : FC) (f : Str) (v : Value) : Bool := c.sc.names.lookup f == some .globalImplicit && c.glob f == some v && !(f == ("__debug__" : Str))
/-- what a for goes over -/
noncomputable def iterOf (c : FC) (ρ : PE) : Expr → Option (List D)
  | .Call (.Name f fp) [e] [] p => if globIs c f (.type "range") && plainExpr e then match ev (c.pc ρ) c.fuel e with
      | some (.int i) => if 0 ≤ i ∧ i ≤ 100 then some (rangeD 0 i.toNat) else none
      | _ => none
    else match ev (c.pc ρ) c.fuel (.Call (.Name f fp) [e] [] p) with
      | some (.tup l) => some l
      | some (.list l) => some l
      | _ => none
  | e => match ev (c.pc ρ) c.fuel e with
    | some (.tup l) => some l
    | some (.list l) => some l
    | _ => none
/-- y.a(e) -/
noncomputable def appOf : Expr → Option (Str × Pos × Str × Pos × Expr × Pos)
  | .Call (.Attribute (.Name y p) a apos) [e] [] pos => some (y, p, a, apos, e, pos)
  | _ => none
theorem appOf_inv {v e : Expr} {y a : Str} {p apos pos : Pos} (h : appOf v = some (y, p, a, apos, e, pos)) : v = .Call (.Attribute (.Name y p) a apos) [e] [] pos := by
  unfold appOf at h
  split at h
  · cases h; rfl
  · cases h
noncomputable def exStep (c : FC) (exs : PE → List Stmt → Option (PFlow × PE)) (ρ : PE) : Stmt → Option (PFlow × PE)
  | .Pass _ => some (.next, ρ)
  | .Break _ => some (.brk, ρ)
  | .Continue _ => some (.cont, ρ)
  | .Return v _ => match v with
    | none => some (.ret .none, ρ)
    | some e => (ev (c.pc (freeze ρ)) c.fuel e).map fun d => (.ret d, ρ)
  | .Assign ts e _ => match ts with
    | [t] => (match t with
      | .Name x _ => (if plainExpr e then
        (if c.ownv = some x then (match ρ.own, evFresh c ρ e with
          | .none, some l => if isLocal c x then some (.next, ⟨ρ.vars.filter (·.1 != x), .lst x l⟩) else none
          | _, _ => none)
         else if storable c ρ x then (ev (c.pc ρ) c.fuel e).map fun d => (.next, setv ρ x d) else none) else none)
      | .Tuple ts k tp => (if plainExpr e && notTuple e then (ev (c.pc ρ) c.fuel e).bind fun d => (bindT c ρ (.Tuple ts k tp) d).map fun ρ' => (.next, ρ') else none)
      | .Attribute v a _ => (match v with
        | .Name y _ => (if plainExpr e then match ρ.own, ev (c.pc ρ) c.fuel e with
          | .inst x C fs, some d => if x = y ∧ isLocal c y = true ∧ (y == ("__debug__" : Str)) = false ∧ c.setOk C a = true ∧ fs.length ≤ 50 then some (.next, { ρ with own := .inst x C (putF a d fs) }) else none
          | _, _ => none
        else none)
        | _ => none)
      | _ => none)
    | _ => none
  | .If t b o _ => match tv (c.pc ρ) c.fuel t with
    | some true => exs ρ b
    | some false => exs ρ o
    | none => none
  | .Assert t _ _ => match tv (c.pc ρ) c.fuel t with
    | some true => some (.next, ρ)
    | _ => none
  | .Expr v _ => match appOf v with
    | some (y, p, a, apos, e, pos) => (match ρ.own with
      | .lst x l => if x = y then (if a = "append" ∧ isLocal c y = true ∧ (y == ("__debug__" : Str)) = false ∧ plainExpr e = true ∧ (apos.endLine == pos.line) = true ∧ l.length ≤ 900 then
          (ev (c.pc ρ) c.fuel e).map fun d => (.next, { ρ with own := .lst x (l ++ [d]) }) else none)
        else (ev (c.pc ρ) c.fuel (.Call (.Attribute (.Name y p) a apos) [e] [] pos)).map fun _ => (.next, ρ)
      | _ => (ev (c.pc ρ) c.fuel (.Call (.Attribute (.Name y p) a apos) [e] [] pos)).map fun _ => (.next, ρ))
    | none => if plainExpr v then (ev (c.pc ρ) c.fuel v).map fun _ => (.next, ρ) else none
  | .For t it body els _ => match t, els with
    | .Name x xp, [] => (if plainExpr it then match iterOf c ρ it with
      | some l => loopWith c (.Name x xp) (fun ρ => exs ρ body) l ρ
      | none => none
      else none)
    | _, _ => none
  | _ => none
noncomputable def exs (c : FC) : Nat → PE → List Stmt → Option (PFlow × PE)
  | 0, _, _ => none
  | _, ρ, [] => some (.next, ρ)
  | n + 1, ρ, st :: r => match exStep c (exs c n) ρ st with
    | some (.next, ρ') => exs c n ρ' r
    | x => x
end Mine
end
section
open PySem PySem.W PyProof.Rows
set_option maxRecDepth 100000
namespace Mine

/-- the state behind a statement -/
structure After (K : Frag) (B : Nat) (O W : List Addr) (N : Nat) (L : Addr) (s : Shared) (O' W' : List Addr) (ρ' : PE) (s' : Shared) : Prop where
  stp : Stp W s s'
  st : St K B O' W' N ρ' L s'
  low : OLow O' s'
  oSub : ∀ a ∈ O', a ∈ O ∨ s.heap.objs.size ≤ a
  oSup : ∀ a ∈ O, a ∈ O'
  wSub : ∀ a ∈ W', a ∈ W ∨ s.heap.objs.size ≤ a
  last : W'.getLast? = W.getLast?
theorem After.trans {K : Frag} {B : Nat} {O W O' W' O'' W'' : List Addr} {N : Nat} {L : Addr} {s s' s'' : Shared} {ρ' ρ'' : PE} (x : After K B O W N L s O' W' ρ' s') (y : After K B O' W' N L s' O'' W'' ρ'' s'') : After K B O W N L s O'' W'' ρ'' s'' where
  stp := x.stp.seq y.stp x.wSub
  st := y.st
  low := y.low
  oSub a ha := (y.oSub a ha).elim (fun h => x.oSub a h) fun h => .inr (Nat.le_trans x.stp.size h)
  oSup a ha := y.oSup a (x.oSup a ha)
  wSub a ha := (y.wSub a ha).elim (fun h => x.wSub a h) fun h => .inr (Nat.le_trans x.stp.size h)
  last := y.last.trans x.last
theorem After.here {K : Frag} {B : Nat} {O W : List Addr} {N : Nat} {L : Addr} {s s' : Shared} {ρ : PE} (k : Kok K B) (hs : St K B O W N ρ L s) (hO : OLow O s) (x : Stp [] s s') : After K B O W N L s O W ρ s' :=
  ⟨x.wide, hs.on k x, hO.on x, fun _ => .inl, fun _ => id, fun _ => .inl, rfl⟩

noncomputable def FlowIs (O₀ : List Addr) (h : Heap) : Flow → PFlow → Prop
  | .next, .next => True
  | .brk, .brk => True
  | .cont, .cont => True
  | .ret v, .ret d => Rep O₀ h v d
  | _, _ => False

section
variable {prog : Program} {w : World} {K : Frag} {B : Nat} (k : Kok K B) {n : Nat} {c : FC} (ok : OpsOk prog w K B n c.ops) (hg : ∀ x v, c.glob x = some v → globIn K x = some v) (hset : ∀ C x, c.setOk C x = true → settable K C x = true)
variable {A : Around} (hA : Room A n) {N : Nat} {L : Addr} {env : Env} (he : EnvOk env L) (hsc : ScIs K env c.sc) {O₀ : List Addr} (h₀ : ∀ a ∈ O₀, a < N)

theorem isLocal_of {x : Str} (hsc : ScIs K env c.sc) (h : isLocal c x = true) : env.kindOf x = some .local := by
  show env.scope.names.lookup x = _
  rw [hsc.eq]
  exact beq_iff_eq.mp h
theorem notCls (he : EnvOk env L) : (env.scope.kind == .class || (env.scope.kind == .module && env.locals != env.globals)) = false := by rw [he.kind]; rfl

include k he hsc in
theorem store_ok {O W : List Addr} {ρ : PE} {x : Str} {v : Value} {d : D} {s : Shared} (hs : St K B O W N ρ L s) (hO : OLow O s) (hx : storable c ρ x = true) (r : Rep O s.heap v d) {Q : Unit → Shared → Prop} {E : Value → Shared → Prop}
    (q : ∀ s', After K B O W N L s O W (setv ρ x d) s' → Q () s') : wpAny (model prog w) A (storeName env x v) Q E s := by
  unfold storable at hx
  simp only [Bool.and_eq_true, bne_iff_ne, ne_eq] at hx
  obtain ⟨hl, hn⟩ := hx
  obtain ⟨m, ns, hv, ho⟩ := hs.loc.ns
  refine wpAny_storeName_local (isLocal_of hsc hl) (he.loc.symm ▸ ns) (fun h' ns' hsb => ?_) (notCls he)
  rw [he.loc] at ns' hsb
  have st : Stp [L] s { s with heap := h', toks := s.toks + 1 } := .same hsb (Nat.le_succ _)
  have hL := hs.loc.out
  have hLO : L ∈ O := (hs.loc.sub L hL).1
  have sub1 : ∀ u ∈ [L], u ∈ O := fun u hu => by rw [List.mem_singleton.mp hu]; exact hLO
  refine q _ ⟨st.mono fun u hu => by rw [List.mem_singleton.mp hu]; exact hL, ⟨hs.inv.on k st fun u hu => ?_, ⟨⟨_, ns', fun y d' e => ?_, ?_⟩, hs.loc.out, hs.loc.sub⟩, hs.bn⟩, hO.on st, fun _ => .inl, fun _ => id, fun _ => .inl, rfl⟩
  · rw [List.mem_singleton.mp hu]; exact Nat.le_trans hs.bn (hs.loc.sub L hL).2
  · show ∃ v', (if y = x then some v else m y) = some v' ∧ _
    by_cases hy : y = x
    · subst hy
      have : some d = some d' := by
        have e' : ((y, d) :: ρ.vars).lookup y = some d' := e
        rw [List.lookup_cons_self] at e'
        exact e'
      cases this
      exact ⟨v, if_pos rfl, r.on st sub1⟩
    · have e' : ((x, d) :: ρ.vars).lookup y = some d' := e
      rw [List.lookup_cons, beq_eq_false_iff_ne.mpr hy] at e'
      obtain ⟨v', h1, h2⟩ := hv y d' e'
      exact ⟨v', by rw [if_neg hy]; exact h1, h2.on st sub1⟩
  · show OwnOk O W N L _ h' ρ.own
    cases how : ρ.own with
    | none => trivial
    | lst y l =>
      rw [how] at ho hn
      obtain ⟨b, vs, m', h1, h2, h3, h4, h7⟩ := ho
      have hyx : y ≠ x := fun e => hn (congrArg some e)
      exact ⟨b, vs, m', (if_neg hyx).trans h1, h2, h3, st.keep _ _ h4 (notTab_cls rfl (by intro q; cases q)) (by simpa using h3), h7.on st sub1⟩
    | inst y C fs =>
      rw [how] at ho hn
      obtain ⟨a, dx, es, m', h1, h2, h3, h4, h0, h5, h6, h7⟩ := ho
      have hyx : y ≠ x := fun e => hn (congrArg some e)
      have haL : a ≠ L := by
        rintro rfl
        obtain ⟨oL, es', ep, e1, e2, _⟩ := ns
        rw [h5] at e1
        cases e1
        cases e2
      exact ⟨a, dx, es, m', (if_neg hyx).trans h1, h2, h3, h4, h0, st.keep _ _ h5 (notTab_cls rfl (by intro q; cases q)) (by simpa using haL), st.keep _ _ h6 (notTab_dict rfl) (by simpa using h4), h7.on st sub1⟩

theorem targets_names {c : FC} {env : Env} : ∀ {ts : List Expr} {ds : List D} {ρ ρ' : PE}, setAll c ρ ts ds = some ρ' → (assignEach ts env).length = ds.length ∧ (assignEach ts env).findIdx? (·.1) = none
  | [], [], ρ, ρ', e => ⟨rfl, rfl⟩
  | .Name x p :: ts, d :: ds, ρ, ρ', e => by
    unfold setAll at e
    split at e
    · obtain ⟨h1, h2⟩ := targets_names (env := env) e
      have : assignEach (.Name x p :: ts) env = (false, assign (.Name x p) env) :: assignEach ts env := rfl
      rw [this]
      exact ⟨congrArg (· + 1) h1, by rw [List.findIdx?_cons]; simp [h2]⟩
    · cases e
  | [], _ :: _, _, _, e => by cases e
  | t :: ts, [], _, _, e => by cases t <;> cases e
  | t :: ts, d :: ds, ρ, ρ', e => by cases t <;> first | (cases e; done) | skip
                                     rename_i x p
                                     unfold setAll at e
                                     split at e
                                     · obtain ⟨h1, h2⟩ := targets_names (env := env) e
                                       have : assignEach (.Name x p :: ts) env = (false, assign (.Name x p) env) :: assignEach ts env := rfl
                                       rw [this]
                                       exact ⟨congrArg (· + 1) h1, by rw [List.findIdx?_cons]; simp [h2]⟩
                                     · cases e

include k he hsc in
theorem setAll_ok : ∀ {ts : List Expr} {ds : List D} {vs : List Value} {O W : List Addr} {ρ ρ' : PE} {s : Shared}, setAll c ρ ts ds = some ρ' → St K B O W N ρ L s → OLow O s → RepL O s.heap vs ds → ∀ {Q : Unit → Shared → Prop} {E : Value → Shared → Prop},
    (∀ s', After K B O W N L s O W ρ' s' → Q () s') → wpAny (model prog w) A (assignInOrder ((assignEach ts env).map (·.2)) vs) Q E s := by
  intro ts
  induction ts with
  | nil =>
    intro ds vs O W ρ ρ' s e hs hO rs Q E q
    cases ds with
    | nil => cases e; exact assignInOrder_nil (q s (.here k hs hO (.refl _ _)))
    | cons => cases e
  | cons t ts ih =>
    intro ds vs O W ρ ρ' s e hs hO rs Q E q
    cases ds with
    | nil => cases t <;> cases e
    | cons d ds =>
      cases t <;> first | (cases e; done) | skip
      rename_i x p
      unfold setAll at e
      split at e
      · rename_i hx
        cases rs with
        | cons r rs =>
          have : assignEach (.Name x p :: ts) env = (false, assign (.Name x p) env) :: assignEach ts env := rfl
          rw [this]
          refine assignInOrder_cons (PyProof.Rows.assign_Name (store_ok k he hsc hs hO hx r fun s₁ a => ?_))
          exact ih e a.st a.low (rs.on a.stp fun u hu => (hs.loc.sub u hu).1) fun s₂ b => q s₂ (a.trans b)
      · cases e
include k he hsc hA in
theorem bindT_ok {O W : List Addr} {ρ ρ' : PE} {tgt : Expr} {v : Value} {d : D} {s : Shared} (e : bindT c ρ tgt d = some ρ') (hs : St K B O W N ρ L s) (hO : OLow O s) (r : Rep O s.heap v d) {Q : Unit → Shared → Prop} {E : Value → Shared → Prop}
    (q : ∀ s', After K B O W N L s O W ρ' s' → Q () s') : wpAny (model prog w) A (assign tgt env v) Q E s := by
  unfold bindT at e
  split at e
  · split at e
    · rename_i hx
      cases e
      exact PyProof.Rows.assign_Name (store_ok k he hsc hs hO hx r q)
    · cases e
  · rename_i ts kd p ds
    obtain ⟨h1, h2⟩ := targets_names (env := env) e
    obtain ⟨a, o, vs, m, rfl, ha, ho, hc, hd, rs⟩ := r.inv
    · rw [PyProof.Rows.assign_Tuple]
      refine wpAny_bind (wpAny_standAt ?_)
      unfold unpack
      rw [h2, h1]
      have hlen : ds.length = vs.toArray.size := by rw [List.size_toArray, rs.length]
      rw [hlen]
      refine wpAny_bind (wpAny_holding (wpAny_up (unpackItems_tuple hA.handled ⟨o, ho, hc, m, hd⟩ fun h' he' u => ?_)))
      have st : Stp [] s { s with heap := h' } := Stp.ext (t := s.toks) he' u
      exact setAll_ok k he hsc e (hs.on k st) (hO.on st) (rs.on st) fun s₂ b => q s₂ ((After.here k hs hO st).trans b)
  · rename_i ts kd p ds
    obtain ⟨h1, h2⟩ := targets_names (env := env) e
    obtain ⟨a, o, vs, m, rfl, ha, ho, hc, hd, rs⟩ := r.inv
    · rw [PyProof.Rows.assign_Tuple]
      refine wpAny_bind (wpAny_standAt ?_)
      unfold unpack
      rw [h2, h1]
      have hlen : ds.length = vs.toArray.size := by rw [List.size_toArray, rs.length]
      rw [hlen]
      refine wpAny_bind (wpAny_holding (wpAny_up (kun_itemsOf hA.handled ⟨o, ho, hc, m, hd⟩ fun h' he' u => ?_)))
      have st : Stp [] s { s with heap := h' } := Stp.ext (t := s.toks) he' u
      exact setAll_ok k he hsc e (hs.on k st) (hO.on st) (rs.on st) fun s₂ b => q s₂ ((After.here k hs hO st).trans b)
  · cases e
end
end Mine
end
section
open PySem PySem.W PyProof.Rows
set_option maxRecDepth 100000
namespace Mine

/-- a datum that stood below z: it may be said for every set of what came later -/
noncomputable def RepZ (z : Nat) (O : List Addr) (h : Heap) (v : Value) (d : D) : Prop := ∀ O₂, (∀ b ∈ O₂, b ∈ O ∨ z ≤ b) → Rep O₂ h v d
theorem RepZ.of {O : List Addr} {s : Shared} {v : Value} {d : D} (r : Rep O s.heap v d) : RepZ s.heap.objs.size O s.heap v d := fun O₂ h =>
  r.keep (fun _ _ e _ _ => e) fun b o hb e => (h b hb).elim id fun q => absurd (Heap.lt_size e) (Nat.not_lt.mpr q)
theorem RepZ.on {z : Nat} {O V : List Addr} {s s' : Shared} {v : Value} {d : D} (r : RepZ z O s.heap v d) (x : Stp V s s') (h : ∀ b ∈ V, b ∈ O ∨ z ≤ b) : RepZ z O s'.heap v d := fun O₂ h₂ => by
  have a := r (O₂ ++ V) fun b hb => (List.mem_append.mp hb).elim (h₂ b) (h b)
  exact (a.on x fun u hu => List.mem_append_right _ hu).keep (fun _ _ e _ _ => e) fun b o hb e => List.mem_append_left _ hb
noncomputable def RepLZ (z : Nat) (O : List Addr) (h : Heap) : List Value → List D → Prop
  | [], [] => True
  | v :: vs, d :: ds => RepZ z O h v d ∧ RepLZ z O h vs ds
  | _, _ => False
theorem RepLZ.of {O : List Addr} {s : Shared} : ∀ {vs : List Value} {ds : List D}, RepL O s.heap vs ds → RepLZ s.heap.objs.size O s.heap vs ds
  | _, _, .nil => trivial
  | _, _, .cons a b => ⟨.of a, .of b⟩
theorem RepLZ.on {z : Nat} {O V : List Addr} {s s' : Shared} (x : Stp V s s') (h : ∀ b ∈ V, b ∈ O ∨ z ≤ b) : ∀ {vs : List Value} {ds : List D}, RepLZ z O s.heap vs ds → RepLZ z O s'.heap vs ds
  | [], [], _ => trivial
  | _ :: _, _ :: _, ⟨a, b⟩ => ⟨a.on x h, b.on x h⟩
  | [], _ :: _, q => q.elim
  | _ :: _, [], q => q.elim

/-- the steps that leave an iterator alone -/
noncomputable def Away (z : Nat) (O U : List Addr) (s s' : Shared) : Prop := ∃ V, Stp V s s' ∧ ∀ v ∈ V, v ∉ U ∧ (v ∈ O ∨ z ≤ v)
section
variable (prog : Program) (w : World) (A : Around) (z : Nat) (O U : List Addr)
/-- what an iterator gives, in turn -/
noncomputable def IterD : List D → Value → Shared → Prop
  | [], it, s₀ => ∀ s, Away z O U s₀ s → ∀ (Q : Option Value → Shared → Prop) (E : Value → Shared → Prop), (∀ s', Stp U s s' → Q none s') → wpAny (model prog w) A (pyNext it) Q E s
  | d :: ds, it, s₀ => ∀ s, Away z O U s₀ s → ∀ (Q : Option Value → Shared → Prop) (E : Value → Shared → Prop),
      (∀ v s', Stp U s s' → RepZ z O s'.heap v d → IterD ds it s' → Q (some v) s') → wpAny (model prog w) A (pyNext it) Q E s
end
section
variable {prog : Program} {w : World} {A : Around} (hh : A.handled = none) {z : Nat} {O : List Addr}
include hh in
theorem iterD_tuple {a t : Addr} {items : Array Value} {o : Obj} {m : Nat} (ht : t ∉ O) (hz : t < z) (ha : a ∈ O ∨ z ≤ a) (hta : t ≠ a) : ∀ {ds : List D} {i : Nat} {s₀ : Shared}, IsTupIter s₀.heap a t i → s₀.heap.get? t = some o → o.cls = .type "tuple" → o.data = .seq items m →
    RepLZ z O s₀.heap (items.toList.drop i) ds → IterD prog w A z O [a] ds (.ref a) s₀ := by
  intro ds
  have step : ∀ {i : Nat} {s₀ s : Shared}, IsTupIter s₀.heap a t i → s₀.heap.get? t = some o → o.cls = .type "tuple" → o.data = .seq items m → Away z O [a] s₀ s → IsTupIter s.heap a t i ∧ s.heap.get? t = some o := by
    intro i s₀ s hi ho hc hd ⟨V, x, hV⟩
    obtain ⟨oi, h1, h2, h3⟩ := hi
    exact ⟨⟨oi, x.keep _ _ h1 (notTab_cls h2 (by intro q; cases q)) fun q => (hV a q).1 (by simp), h2, h3⟩, x.keep _ _ ho (notTab_cls hc (by intro q; cases q)) fun q => (hV t q).2.elim ht fun q => absurd hz (Nat.not_lt.mpr q)⟩
  induction ds with
  | nil =>
    intro i s₀ hi ho hc hd rs s aw Q E q
    obtain ⟨hi', ho'⟩ := step hi ho hc hd aw
    have hn : items[i]? = none := by
      cases e : items.toList.drop i with
      | nil =>
        have := List.drop_eq_nil_iff.mp e
        simpa using this
      | cons v vs => rw [e] at rs; exact rs.elim
    refine wpAny_up (next_tuple_end hh hi' ⟨o, ho', hc, m, hd⟩ hn fun h' he u => ?_)
    exact q _ (Stp.extBut (t := s.toks) he u)
  | cons d ds ih =>
    intro i s₀ hi ho hc hd rs s aw Q E q
    obtain ⟨hi', ho'⟩ := step hi ho hc hd aw
    cases e : items.toList.drop i with
    | nil => rw [e] at rs; exact rs.elim
    | cons v vs =>
      rw [e] at rs
      have hlt : i < items.size := by
        rcases Nat.lt_or_ge i items.size with h | h
        · exact h
        · rw [List.drop_eq_nil_of_le (by simpa using h)] at e; cases e
      have hv : items[i]? = some v := by
        have : items.toList[i]? = some v := by
          have := congrArg List.head? e
          rw [List.head?_drop] at this
          exact this
        simpa using this
      have hd' : items.toList.drop (i + 1) = vs := by
        have := congrArg List.tail e
        rw [List.tail_drop] at this
        exact this
      refine next_tuple_item hi' ⟨o, ho', hc, m, hd⟩ hv fun h' hi'' hsb => ?_
      have st : Stp [a] s { s with heap := h' } := Stp.same (t := s.toks) hsb (Nat.le_refl _)
      obtain ⟨V, x, hV⟩ := aw
      have r1 := rs.1.on x fun b hb => (hV b hb).2
      have r2 := RepLZ.on x (fun b hb => (hV b hb).2) rs.2
      have ua : ∀ b ∈ [a], b ∈ O ∨ z ≤ b := fun b hb => by rw [List.mem_singleton.mp hb]; exact ha
      exact q v _ st (r1.on st ua) (ih hi'' (st.keep _ _ ho' (notTab_cls hc (by intro q; cases q)) (by simpa using hta)) hc hd (by rw [hd']; exact RepLZ.on st ua r2))
include hh in
theorem iterD_list {a t : Addr} {items : Array Value} {o : Obj} {m : Nat} (ht : t ∉ O) (hz : t < z) (ha : z ≤ a) : ∀ {ds : List D} {i : Nat} {s₀ : Shared}, s₀.heap.IsListIter a t i → s₀.heap.get? t = some o → o.cls = .type "list" → o.data = .seq items m →
    RepLZ z O s₀.heap (items.toList.drop i) ds → IterD prog w A z O [a] ds (.ref a) s₀ := by
  intro ds
  have hta : t ≠ a := Nat.ne_of_lt (Nat.lt_of_lt_of_le hz ha)
  have step : ∀ {i : Nat} {s₀ s : Shared}, s₀.heap.IsListIter a t i → s₀.heap.get? t = some o → o.cls = .type "list" → o.data = .seq items m → Away z O [a] s₀ s → s.heap.IsListIter a t i ∧ s.heap.get? t = some o := by
    intro i s₀ s hi ho hc hd ⟨V, x, hV⟩
    obtain ⟨oi, h1, h2, h3⟩ := hi
    exact ⟨⟨oi, x.keep _ _ h1 (notTab_cls h2 (by intro q; cases q)) fun q => (hV a q).1 (by simp), h2, h3⟩, x.keep _ _ ho (notTab_cls hc (by intro q; cases q)) fun q => (hV t q).2.elim ht fun q => absurd hz (Nat.not_lt.mpr q)⟩
  induction ds with
  | nil =>
    intro i s₀ hi ho hc hd rs s aw Q E q
    obtain ⟨hi', ho'⟩ := step hi ho hc hd aw
    have hn : items[i]? = none := by
      cases e : items.toList.drop i with
      | nil =>
        have := List.drop_eq_nil_iff.mp e
        simpa using this
      | cons v vs => rw [e] at rs; exact rs.elim
    refine wpAny_up (wpAny_pyNext_list_end hh hi' ⟨o, ho', hc, m, hd⟩ hn fun h' he u => ?_)
    exact q _ (Stp.extBut (t := s.toks) he u)
  | cons d ds ih =>
    intro i s₀ hi ho hc hd rs s aw Q E q
    obtain ⟨hi', ho'⟩ := step hi ho hc hd aw
    cases e : items.toList.drop i with
    | nil => rw [e] at rs; exact rs.elim
    | cons v vs =>
      rw [e] at rs
      have hlt : i < items.size := by
        rcases Nat.lt_or_ge i items.size with h | h
        · exact h
        · rw [List.drop_eq_nil_of_le (by simpa using h)] at e; cases e
      have hv : items[i]? = some v := by
        have : items.toList[i]? = some v := by
          have := congrArg List.head? e
          rw [List.head?_drop] at this
          exact this
        simpa using this
      have hd' : items.toList.drop (i + 1) = vs := by
        have := congrArg List.tail e
        rw [List.tail_drop] at this
        exact this
      refine wpAny_pyNext_list_item hi' ⟨o, ho', hc, m, hd⟩ hv fun h' hi'' hsb => ?_
      have st : Stp [a] s { s with heap := h' } := Stp.same (t := s.toks) hsb (Nat.le_refl _)
      obtain ⟨V, x, hV⟩ := aw
      have r1 := rs.1.on x fun b hb => (hV b hb).2
      have r2 := RepLZ.on x (fun b hb => (hV b hb).2) rs.2
      have ua : ∀ b ∈ [a], b ∈ O ∨ z ≤ b := fun b hb => .inr (by rw [List.mem_singleton.mp hb]; exact ha)
      exact q v _ st (r1.on st ua) (ih hi'' (st.keep _ _ ho' (notTab_cls hc (by intro q; cases q)) (by simpa using hta)) hc hd (by rw [hd']; exact RepLZ.on st ua r2))
include hh in
theorem iterD_range {a : Addr} (ha : z ≤ a) : ∀ {m : Nat} {i : Nat} {s₀ : Shared}, 0 < s₀.toks → IsRangeIter s₀.heap a i m 1 → IterD prog w A z O [a] (rangeD i m) (.ref a) s₀ := by
  have step : ∀ {i m : Int} {s₀ s : Shared}, IsRangeIter s₀.heap a i m 1 → Away z O [a] s₀ s → IsRangeIter s.heap a i m 1 := by
    intro i m s₀ s hi ⟨V, x, hV⟩
    exact x.keep _ _ hi (notTab_cls rfl (by intro q; cases q)) fun q => (hV a q).1 (by simp)
  intro m
  induction m with
  | zero =>
    intro i s₀ ht hi s aw Q E q
    refine wpAny_up (wpAny_pyNext_range_end hh (step hi aw) (Int.le_refl _) fun h' he u => ?_)
    exact q _ (Stp.extBut (t := s.toks) he u)
  | succ m ih =>
    intro i s₀ ht hi s aw Q E q
    refine wpAny_pyNext_range_item (step hi aw) (by omega) fun h' hi' hsb => ?_
    obtain ⟨V, x, hV⟩ := aw
    have hts : 0 < s.toks := Nat.lt_of_lt_of_le ht x.tok
    have st : Stp [a] s { s with heap := h', toks := s.toks + 1 } := Stp.same (t := s.toks + 1) hsb (Nat.le_succ _)
    refine q _ _ st (fun O₂ _ => .int _ _) (ih (Nat.succ_pos _) ?_)
    have e1 : ((i : Int) + 1) = ((i + 1 : Nat) : Int) := by omega
    have e2 : (((m + 1 : Nat) : Int) - 1) = (m : Int) := by omega
    rw [e1, e2] at hi'
    exact hi'
end
end Mine
end
section
open PySem PySem.W PyProof.Rows
set_option maxRecDepth 100000
namespace Mine

section
variable {prog : Program} {w : World} {K : Frag} {B : Nat} (k : Kok K B) {n : Nat} {c : FC} (ok : OpsOk prog w K B n c.ops) (hg : ∀ x v, c.glob x = some v → globIn K x = some v) (hset : ∀ C x, c.setOk C x = true → settable K C x = true)
variable {A : Around} (hA : Room A n) {N : Nat} {L : Addr} {env : Env} (he : EnvOk env L) (hsc : ScIs K env c.sc) {O₀ : List Addr} (h₀ : ∀ a ∈ O₀, a < N)

/-- what is claimed of a list of statements -/
noncomputable def ExsOk (prog : Program) (w : World) (K : Frag) (B : Nat) (A : Around) (N : Nat) (L : Addr) (env : Env) (O₀ : List Addr) (f : PE → List Stmt → Option (PFlow × PE)) : Prop :=
  ∀ ρ stmts fl ρ', f ρ stmts = some (fl, ρ') → ∀ O W s, St K B O W N ρ L s → OLow O s → (∀ a ∈ O₀, a ∈ O) → ∀ (Q : Flow → Shared → Prop) (E : Value → Shared → Prop),
    (∀ flv s' O' W', After K B O W N L s O' W' ρ' s' → FlowIs O₀ s'.heap flv fl → Q flv s') → wpAny (model prog w) A (execs stmts env) Q E s

theorem iterD_away {z : Nat} {O U : List Addr} {ds : List D} {it : Value} {s₀ s : Shared} (h : IterD prog w A z O U ds it s₀) (x : Away z O U s₀ s) : IterD prog w A z O U ds it s := by
  have tr : ∀ s', Away z O U s s' → Away z O U s₀ s' := by
    intro s' ⟨V', y, hV'⟩
    obtain ⟨V, x, hV⟩ := x
    exact ⟨V ++ V', x.trans y, fun v hv => (List.mem_append.mp hv).elim (hV v) (hV' v)⟩
  cases ds with
  | nil => exact fun s' y => h s' (tr s' y)
  | cons d ds => exact fun s' y => h s' (tr s' y)

include k hA he hsc in
theorem loop_ok {f : PE → Option (PFlow × PE)} {body : List Stmt} {x : Str} {xp : Pos}
    (hf : ∀ ρ fl ρ', f ρ = some (fl, ρ') → ∀ O W s, St K B O W N ρ L s → OLow O s → (∀ a ∈ O₀, a ∈ O) → ∀ (Q : Flow → Shared → Prop) (E : Value → Shared → Prop), (∀ flv s' O' W', After K B O W N L s O' W' ρ' s' → FlowIs O₀ s'.heap flv fl → Q flv s') → wpAny (model prog w) A (execs body env) Q E s)
    {ds : List D} {ρ ρ' : PE} {fl : PFlow} (e : loopWith c (.Name x xp) f ds ρ = some (fl, ρ')) {O W : List Addr} {si s : Shared} {a : Addr} {it : Value} (hs : St K B (a :: O) W N ρ L s) (hlow : OLow (a :: O) s) (h0 : ∀ b ∈ O₀, b ∈ O) (haW : a ∉ W) (hai : si.heap.objs.size ≤ a)
    (hBsi : B ≤ si.heap.objs.size) (st : Stp W si s) (hit : IterD prog w A si.heap.objs.size O [a] ds it s) {R : Result → Shared → Prop}
    (q : ∀ flv s' O' W', After K B O W N L si O' W' ρ' s' → FlowIs O₀ s'.heap flv fl → R (.ok flv) s') : codeAny (model prog w) A (.forLoop (.Name x xp) it body [] env) R s := by
  refine codeAny_forLoop (I := fun m s => ∃ ds ρ O₁ W₁, m = ds.length ∧ loopWith c (.Name x xp) f ds ρ = some (fl, ρ') ∧ St K B O₁ W₁ N ρ L s ∧ OLow O₁ s ∧ Stp W si s ∧ (∀ b ∈ O₁, b ∈ O ∨ si.heap.objs.size ≤ b) ∧ (∀ b ∈ a :: O, b ∈ O₁) ∧ (∀ b ∈ W₁, b ∈ W ∨ si.heap.objs.size ≤ b) ∧ a ∉ W₁ ∧ W₁.getLast? = W.getLast? ∧
      IterD prog w A si.heap.objs.size O [a] ds it s) ?_ ds.length ⟨ds, ρ, a :: O, W, rfl, e, hs, hlow, st, fun b hb => ?_, fun _ hb => hb, fun _ => .inl, haW, rfl, hit⟩
  · intro m s ⟨ds, ρ, O₁, W₁, hm, e, hs, hlow, st, hO1, hO2, hW, haW, hwl, hit⟩
    have haO : a ∈ O₁ := hO2 a (.head _)
    have hBa : B ≤ a := Nat.le_trans hBsi hai
    cases ds with
    | nil =>
      refine hit s ⟨[], .refl _ _, by simp⟩ _ _ fun s₁ x₁ => ?_
      cases e
      refine wpAny_execs_nil (q _ _ O₁ W₁ ⟨st.seq x₁ fun b hb => .inr (by rw [List.mem_singleton.mp hb]; exact hai), ⟨hs.inv.on k x₁ fun u hu => by rw [List.mem_singleton.mp hu]; exact hBa, hs.loc.onU x₁ haO haW, hs.bn⟩, hlow.on x₁, hO1, fun b hb => hO2 b (.tail _ hb), hW, hwl⟩ trivial)
    | cons d ds =>
      refine hit s ⟨[], .refl _ _, by simp⟩ _ _ fun v s₁ x₁ rz it₁ => ?_
      have hs₁ : St K B O₁ W₁ N ρ L s₁ := ⟨hs.inv.on k x₁ fun u hu => by rw [List.mem_singleton.mp hu]; exact hBa, hs.loc.onU x₁ haO haW, hs.bn⟩
      have hlow₁ := hlow.on x₁
      have st₁ : Stp W si s₁ := st.seq x₁ fun b hb => .inr (by rw [List.mem_singleton.mp hb]; exact hai)
      unfold loopWith at e
      split at e
      · rename_i ρ₁ hb
        refine bindT_ok k hA he hsc hb hs₁ hlow₁ (rz O₁ hO1) fun s₂ a₂ => ?_
        have away₂ : ∀ b ∈ W₁, b ∉ [a] ∧ (b ∈ O ∨ si.heap.objs.size ≤ b) := fun b hb => ⟨fun q => haW (by rw [List.mem_singleton.mp q] at hb; exact hb), hO1 b (hs.loc.sub b hb).1⟩
        have h00 : ∀ b ∈ O₀, b ∈ O₁ := fun b hb => hO2 b (.tail _ (h0 b hb))
        have done : ∀ {s₃ O₃ W₃ ρ₃}, After K B O₁ W₁ N L s₁ O₃ W₃ ρ₃ s₃ → After K B O W N L si O₃ W₃ ρ₃ s₃ := fun a23 =>
          ⟨st₁.seq a23.stp hW, a23.st, a23.low, fun b hb => (a23.oSub b hb).elim (hO1 b) fun h => .inr (Nat.le_trans st₁.size h), fun b hb => a23.oSup b (hO2 b (.tail _ hb)), fun b hb => (a23.wSub b hb).elim (hW b) fun h => .inr (Nat.le_trans st₁.size h), a23.last.trans hwl⟩
        have again : ∀ {s₃ O₃ W₃ ρ₃}, After K B O₁ W₁ N L s₁ O₃ W₃ ρ₃ s₃ → loopWith c (.Name x xp) f ds ρ₃ = some (fl, ρ') → ∃ m', m' < m ∧ ∃ ds ρ O₁ W₁, m' = ds.length ∧ loopWith c (.Name x xp) f ds ρ = some (fl, ρ') ∧ St K B O₁ W₁ N ρ L s₃ ∧ OLow O₁ s₃ ∧ Stp W si s₃ ∧ (∀ b ∈ O₁, b ∈ O ∨ si.heap.objs.size ≤ b) ∧ (∀ b ∈ a :: O, b ∈ O₁) ∧ (∀ b ∈ W₁, b ∈ W ∨ si.heap.objs.size ≤ b) ∧ a ∉ W₁ ∧ W₁.getLast? = W.getLast? ∧
            IterD prog w A si.heap.objs.size O [a] ds it s₃ := fun {s₃ O₃ W₃ ρ₃} a23 e => by
          have dn := done a23
          refine ⟨ds.length, by rw [hm]; exact Nat.lt_succ_self _, ds, ρ₃, O₃, W₃, rfl, e, a23.st, a23.low, dn.stp, dn.oSub, fun b hb => a23.oSup b (hO2 b hb), dn.wSub, fun q => ?_, dn.last, iterD_away it₁ ⟨W₁, a23.stp, away₂⟩⟩
          exact (a23.wSub a q).elim haW fun h => absurd (hlow₁ a haO) (Nat.not_lt.mpr h)
        split at e
        · rename_i ρ₂ hb2
          refine hf _ _ _ hb2 O₁ W₁ s₂ a₂.st a₂.low h00 _ _ fun flv s₃ O₃ W₃ a₃ fi => ?_
          have : flv = .next := by cases flv <;> first | rfl | exact fi.elim
          subst this
          exact again (a₂.trans a₃) e
        · rename_i ρ₂ hb2
          refine hf _ _ _ hb2 O₁ W₁ s₂ a₂.st a₂.low h00 _ _ fun flv s₃ O₃ W₃ a₃ fi => ?_
          have : flv = .cont := by cases flv <;> first | rfl | exact fi.elim
          subst this
          exact again (a₂.trans a₃) e
        · rename_i ρ₂ hb2
          cases e
          refine hf _ _ _ hb2 O₁ W₁ s₂ a₂.st a₂.low h00 _ _ fun flv s₃ O₃ W₃ a₃ fi => ?_
          have : flv = .brk := by cases flv <;> first | rfl | exact fi.elim
          subst this
          exact q _ _ _ _ (done (a₂.trans a₃)) trivial
        · rename_i d' ρ₂ hb2
          cases e
          refine hf _ _ _ hb2 O₁ W₁ s₂ a₂.st a₂.low h00 _ _ fun flv s₃ O₃ W₃ a₃ fi => ?_
          cases flv with
          | ret v' => exact q _ _ _ _ (done (a₂.trans a₃)) fi
          | next => exact fi.elim
          | brk => exact fi.elim
          | cont => exact fi.elim
        · cases e
      · cases e
  · exact (List.mem_cons.mp hb).elim (fun q => .inr (q ▸ hai)) .inl
end
end Mine
end
section
open PySem PySem.W PyProof.Rows
set_option maxRecDepth 100000
namespace Mine

theorem lookup_filter_ne {x y : Str} {d : D} : ∀ {l : List (Str × D)}, (l.filter (·.1 != x)).lookup y = some d → l.lookup y = some d ∧ y ≠ x
  | [], h => by cases h
  | (z, e) :: r, h => by
    rw [List.filter_cons] at h
    by_cases hz : z = x
    · subst hz
      simp only [bne_self_eq_false, Bool.false_eq_true, if_false] at h
      obtain ⟨h1, h2⟩ := lookup_filter_ne h
      exact ⟨by rw [List.lookup_cons, beq_eq_false_iff_ne.mpr h2]; exact h1, h2⟩
    · rw [if_pos (by simpa using hz)] at h
      rw [List.lookup_cons] at h ⊢
      by_cases hy : y = z
      · subst hy
        simp only [beq_self_eq_true] at h ⊢
        exact ⟨h, hz⟩
      · rw [beq_eq_false_iff_ne.mpr hy] at h ⊢
        exact lookup_filter_ne h

section
variable {prog : Program} {w : World} {K : Frag} {B : Nat} (k : Kok K B) {n : Nat} {c : FC} (ok : OpsOk prog w K B n c.ops) (hg : ∀ x v, c.glob x = some v → globIn K x = some v) (hset : ∀ C x, c.setOk C x = true → settable K C x = true)
variable {A : Around} (hA : Room A n) {N : Nat} {L : Addr} {env : Env} (he : EnvOk env L) (hsc : ScIs K env c.sc) {O₀ : List Addr} (h₀ : ∀ a ∈ O₀, a < N)

theorem noRepl (he : EnvOk env L) : interactive env = false := by
  unfold interactive
  rw [he.kind]
  rfl
theorem noSwap {e : Expr} {t : Option Expr} {l : Nat} (h : plainExpr e = true) : swapsWith e t l env = pure false := by
  cases e <;> first | rfl | cases h

/-- behind it nothing is turned: what is one's own is a datum like the others -/
theorem St.freeze {O W : List Addr} {ρ : PE} {s : Shared} (hs : St K B O W N ρ L s) (h0 : ∀ a ∈ O₀, a ∈ O) (h₀ : ∀ a ∈ O₀, a < N) : St K B (L :: O₀) [L] N (Mine.freeze ρ) L s := by
  have hL := hs.loc.sub L hs.loc.out
  have sub : ∀ b o, b ∈ L :: O₀ → s.heap.get? b = some o → b ∈ O := fun b o hb _ => (List.mem_cons.mp hb).elim (fun e => e ▸ hL.1) (h0 b)
  have kp : KeepFor O s.heap s.heap := fun _ _ e _ _ => e
  obtain ⟨m, ns, hv, ho⟩ := hs.loc.ns
  refine ⟨hs.inv, ⟨⟨m, ns, ?_, ?_⟩, .head _, fun a ha => ?_⟩, hs.bn⟩
  · intro x d e
    have plain : ∀ x d, ρ.vars.lookup x = some d → ∃ v, m x = some v ∧ Rep (L :: O₀) s.heap v d := fun x d e => let ⟨v, h1, r⟩ := hv x d e; ⟨v, h1, r.keep kp sub⟩
    unfold Mine.freeze at e
    split at e
    · rename_i y l how
      rw [how] at ho
      obtain ⟨b, vs, m', h1, h2, h3, h4, h7⟩ := ho
      have e' : ((y, D.list l) :: ρ.vars).lookup x = some d := e
      rw [List.lookup_cons] at e'
      by_cases hy : x = y
      · subst hy
        simp only [beq_self_eq_true] at e'
        cases e'
        refine ⟨_, h1, .list (o := listOf vs.toArray m') (fun hb => ?_) h4 rfl rfl (h7.keep kp sub)⟩
        exact (List.mem_cons.mp hb).elim h3 fun hb => absurd (h₀ b hb) (Nat.not_lt.mpr (hs.loc.sub b h2).2)
      · rw [beq_eq_false_iff_ne.mpr hy] at e'
        exact plain x d e'
    · exact plain x d e
  · unfold Mine.freeze
    split <;> trivial
  · rw [List.mem_singleton.mp ha]; exact ⟨.head _, hL.2⟩

theorem Rep.list_inv {O : List Addr} {h : Heap} {v : Value} {l : List D} (r : Rep O h v (.list l)) : ∃ a vs, v = .ref a ∧ a ∉ O ∧ h.IsList a (List.toArray vs) ∧ RepL O h vs l := by
  obtain ⟨_, _, _, _, rfl, h0, ho, hc, hd, rs⟩ := r.inv
  exact ⟨_, _, rfl, h0, ⟨_, ho, hc, _, hd⟩, rs⟩
theorem Rep.tup_inv {O : List Addr} {h : Heap} {v : Value} {l : List D} (r : Rep O h v (.tup l)) : ∃ a vs, v = .ref a ∧ a ∉ O ∧ IsTup h a (List.toArray vs) ∧ RepL O h vs l := by
  obtain ⟨_, _, _, _, rfl, h0, ho, hc, hd, rs⟩ := r.inv
  exact ⟨_, _, rfl, h0, ⟨_, ho, hc, _, hd⟩, rs⟩
theorem list_add {O : List Addr} {va vb : Value} {a b : List D} {s : Shared} (ra : Rep O s.heap va (.list a)) (rb : Rep O s.heap vb (.list b)) (hz : a.length + b.length ≤ 1000) {Q : Value → Shared → Prop} {E : Value → Shared → Prop}
    (q : ∀ vs, RepL O s.heap vs (a ++ b) → Q (.ref s.heap.objs.size) { s with heap := s.heap.push (listOf (List.toArray vs) 0) }) : wpAny (model prog w) A (binaryOp .Add va vb) Q E s := by
  obtain ⟨l, vs, rfl, _, hl, rs⟩ := ra.list_inv
  obtain ⟨l2, ws, rfl, _, hl2, rs2⟩ := rb.list_inv
  obtain ⟨⟨cls, dd, data, sl⟩, ho, hc, n1, hd⟩ := hl
  obtain ⟨⟨cls2, dd2, data2, sl2⟩, ho2, hc2, n2, hd2⟩ := hl2
  dsimp only at hc hd hc2 hd2
  subst hc hd hc2 hd2
  have e : vs.toArray ++ ws.toArray = (vs ++ ws).toArray := by simp
  have hsz : vs.toArray.size + ws.toArray.size ≤ sizeLine := by
    rw [List.size_toArray, List.size_toArray, rs.length, rs2.length]
    exact Nat.le_trans hz (by decide)
  refine concat_meets ⟨_, ho, rfl⟩ ⟨_, ho2, rfl⟩ noFill_list_add seq_list_add PySem.F.slot_list_add PySem.F.entry_list_add (PySem.F.args_list_add_2 _ _) (list_addW l l2 vs.toArray ws.toArray n1 n2 dd dd2 sl sl2 hsz) ⟨ho, ho2, ?_⟩
  rw [e]
  exact q _ (rs2.append rs)

include k ok hg hA he hsc in
theorem fresh_ok {O W : List Addr} {ρ : PE} {e : Expr} {l : List D} {s : Shared} (h : evFresh c ρ e = some l) (hs : St K B O W N ρ L s) (hO : OLow O s) {Q : Value → Shared → Prop} {E : Value → Shared → Prop}
    (q : ∀ s₁ vs, Stp [] s s₁ → RepL O s₁.heap vs l → Q (.ref s₁.heap.objs.size) { s₁ with heap := s₁.heap.push (listOf (List.toArray vs) 0) }) : wpAny (model prog w) A (eval e env) Q E s := by
  have hf : ∀ e d, ev (c.pc ρ) c.fuel e = some d → EvOk prog w K B (c.pc ρ) A O W N L env e d := fun e d h => ev_ok k ok hg hA he hsc h
  unfold evFresh at h
  split at h
  · obtain ⟨ds, hds, h⟩ := Option.bind_eq_some_iff.mp h
    split at h
    · rename_i hl
      cases h
      exact wpAny_List (evs_ok k hf _ hds s hs hO _ _ fun vs s₁ x rs => ⟨by rw [rs.length]; exact Nat.le_trans hl (by decide), q s₁ vs x rs⟩)
    · cases h
  · obtain ⟨a, ha, h⟩ := Option.bind_eq_some_iff.mp h
    obtain ⟨b, hb, h⟩ := Option.bind_eq_some_iff.mp h
    unfold addL at h
    split at h
    · split at h
      · rename_i hz
        cases h
        refine wpAny_BinOp (hf _ _ ha s hs hO _ _ fun va s₁ x ra => hf _ _ hb s₁ (hs.on k x) (hO.on x) _ _ fun vb s₂ y rb => ?_)
        exact list_add (ra.on y) rb hz fun vs rs => q s₂ vs (x.tr y) rs
      · cases h
    · cases h
  · cases h

include k ok hg hA he hsc in
/-- an expression whose datum is the statement's -/
theorem ev_here {O W : List Addr} {ρ : PE} {e : Expr} {d : D} {s : Shared} (h : ev (c.pc ρ) c.fuel e = some d) (hs : St K B O W N ρ L s) (hO : OLow O s) {Q : Value → Shared → Prop} {E : Value → Shared → Prop}
    (q : ∀ v s', After K B O W N L s O W ρ s' → Stp [] s s' → Rep O s'.heap v d → Q v s') : wpAny (model prog w) A (eval e env) Q E s :=
  ev_ok (c := c.pc ρ) k ok hg hA he hsc h s hs hO Q E fun v s' x r => q v s' (.here k hs hO x) x r

include k hg he hsc in
theorem globIs_ok {f : Str} {v : Value} {p : Pos} {s : Shared} (h : globIs c f v = true) (I : Inv K B s) {Q : Value → Shared → Prop} {E : Value → Shared → Prop} (q : Q v s) : wpAny (model prog w) A (eval (.Name f p) env) Q E s := by
  unfold globIs at h
  simp only [Bool.and_eq_true, beq_iff_eq, Bool.not_eq_true'] at h
  exact gives_global he I (by rw [hsc.eq]; exact h.1.1) (by simpa using h.2) (hg _ _ h.1.2) q
end
end Mine
end
section
open PySem PySem.W PyProof.Rows
set_option maxRecDepth 100000
namespace Mine

section
variable {prog : Program} {w : World} {K : Frag} {B : Nat} (k : Kok K B) {n : Nat} {c : FC} (ok : OpsOk prog w K B n c.ops) (hg : ∀ x v, c.glob x = some v → globIn K x = some v) (hset : ∀ C x, c.setOk C x = true → settable K C x = true)
variable {A : Around} (hA : Room A n) {N : Nat} {L : Addr} {env : Env} (he : EnvOk env L) (hsc : ScIs K env c.sc) {O₀ : List Addr} (h₀ : ∀ a ∈ O₀, a < N)

include k he hsc in
/-- one's own list comes to be -/
theorem own_ok {O W : List Addr} {ρ : PE} {s : Shared} {x : Str} {l : List D} {vs : List Value} (hs : St K B O W N ρ L s) (hO : OLow O s) (hx : isLocal c x = true) (how : ρ.own = .none) (rs : RepL O s.heap vs l) {Q : Unit → Shared → Prop} {E : Value → Shared → Prop}
    (q : ∀ s', After K B O W N L s (s.heap.objs.size :: O) (s.heap.objs.size :: W) ⟨ρ.vars.filter (·.1 != x), .lst x l⟩ s' → Q () s') :
    wpAny (model prog w) A (storeName env x (.ref s.heap.objs.size)) Q E { s with heap := s.heap.push (listOf (List.toArray vs) 0) } := by
  have p : Stp [] s { s with heap := s.heap.push (listOf (List.toArray vs) 0) } := .push ..
  obtain ⟨m, ns, hv, ho⟩ := (hs.on k p).loc.ns
  have hL := hs.loc.out
  have hLO := (hs.loc.sub L hL).1
  have hLs : L < s.heap.objs.size := hO L hLO
  refine wpAny_storeName_local (isLocal_of hsc hx) (he.loc.symm ▸ ns) (fun h' ns' hsb => ?_) (notCls he)
  rw [he.loc] at ns' hsb
  have st : Stp [L] { s with heap := s.heap.push (listOf (List.toArray vs) 0) } { s with heap := h', toks := s.toks + 1 } := .same hsb (Nat.le_succ _)
  have all : Stp [L] s { s with heap := h', toks := s.toks + 1 } := p.trans st
  have allW : Stp W s { s with heap := h', toks := s.toks + 1 } := all.mono fun u hu => by rw [List.mem_singleton.mp hu]; exact hL
  have hb : s.heap.objs.size ≠ L := Nat.ne_of_gt hLs
  have sub1 : ∀ u ∈ [L], u ∈ O := fun u hu => by rw [List.mem_singleton.mp hu]; exact hLO
  have widen : ∀ {h : Heap} {v : Value} {d : D}, Rep O s.heap v d → Rep (s.heap.objs.size :: O) s.heap v d := fun r =>
    r.keep (fun _ _ e _ _ => e) fun b o hb e => (List.mem_cons.mp hb).elim (fun q => absurd (Heap.lt_size e) (by rw [q]; exact Nat.lt_irrefl _)) id
  have sub2 : ∀ u ∈ [L], u ∈ s.heap.objs.size :: O := fun u hu => .tail _ (sub1 u hu)
  obtain ⟨m₀, ns₀, hv₀, ho₀⟩ := hs.loc.ns
  have mm : m = m₀ := by
    obtain ⟨o1, es1, ep1, e1, d1, _, f1⟩ := ns
    obtain ⟨o2, es2, ep2, e2, d2, _, f2⟩ := ns₀
    have : o1 = o2 := Option.some.inj (e1.symm.trans (Heap.get?_push_of_some _ e2))
    subst this
    rw [d1] at d2
    cases d2
    funext y
    rw [← f1, ← f2]
  subst mm
  refine q _ ⟨allW, ⟨hs.inv.on k all fun u hu => ?_, ⟨⟨_, ns', fun y d e => ?_, ?_⟩, .tail _ hL, fun a ha => ?_⟩, hs.bn⟩, fun a ha => ?_, fun a ha => ?_, fun a ha => .tail _ ha, fun a ha => ?_, ?_⟩
  · rw [List.mem_singleton.mp hu]; exact Nat.le_trans hs.bn (hs.loc.sub L hL).2
  · obtain ⟨e', hy⟩ := lookup_filter_ne e
    obtain ⟨v, h1, r⟩ := hv₀ y d e'
    exact ⟨v, (if_neg hy).trans h1, (widen (h := h') r).on all sub2⟩
  · refine ⟨s.heap.objs.size, vs, 0, if_pos rfl, .head _, hb, st.keep _ _ (Heap.get?_push_size _ rfl) (notTab_cls rfl (by intro q; cases q)) (by simpa using hb), ?_⟩
    exact (rs.keep (O' := s.heap.objs.size :: O) (fun _ _ e _ _ => e) fun b o hb e => (List.mem_cons.mp hb).elim (fun q => absurd (Heap.lt_size e) (by rw [q]; exact Nat.lt_irrefl _)) id).on all sub2
  · exact (List.mem_cons.mp ha).elim (fun q => ⟨q ▸ .head _, by rw [q]; exact Nat.le_of_lt (Nat.lt_of_le_of_lt (hs.loc.sub L hL).2 hLs)⟩) fun q => ⟨.tail _ (hs.loc.sub a q).1, (hs.loc.sub a q).2⟩
  · have hz : s.heap.objs.size < h'.objs.size := by
      have := hsb.1
      rw [this]
      show _ < (Heap.push _ _).objs.size
      rw [Heap.size_push]
      exact Nat.lt_succ_self _
    exact (List.mem_cons.mp ha).elim (fun q => q ▸ hz) fun q => Nat.lt_trans (hO a q) hz
  · exact (List.mem_cons.mp ha).elim (fun q => .inr (Nat.le_of_eq q.symm)) .inl
  · exact (List.mem_cons.mp ha).elim (fun q => .inr (Nat.le_of_eq q.symm)) .inl
  · cases W with
    | nil => cases hL
    | cons b r => rfl
end
end Mine
end
section
open PySem PySem.W PyProof.Rows
set_option maxRecDepth 100000
namespace Mine

section
variable {prog : Program} {w : World} {K : Frag} {B : Nat} (k : Kok K B) {n : Nat} {c : FC} (ok : OpsOk prog w K B n c.ops) (hg : ∀ x v, c.glob x = some v → globIn K x = some v) (hset : ∀ C x, c.setOk C x = true → settable K C x = true)
variable {A : Around} (hA : Room A n) {N : Nat} {L : Addr} {env : Env} (he : EnvOk env L) (hsc : ScIs K env c.sc) {O₀ : List Addr} (h₀ : ∀ a ∈ O₀, a < N)

include k ok hg hA he hsc in
theorem append_ok {O W : List Addr} {ρ : PE} {s : Shared} {x : Str} {l : List D} {e : Expr} {d : D} {p apos pos pe : Pos} (hs : St K B O W N ρ L s) (hO : OLow O s) (how : ρ.own = .lst x l) (hx : isLocal c x = true) (hd : (x == ("__debug__" : Str)) = false) (hp : plainExpr e = true)
    (hl : (apos.endLine == pos.line) = true) (hz : l.length ≤ 900) (h : ev (c.pc ρ) c.fuel e = some d) {Q : Flow → Shared → Prop} {E : Value → Shared → Prop}
    (q : ∀ s', After K B O W N L s O W { ρ with own := .lst x (l ++ [d]) } s' → Q .next s') : wpAny (model prog w) A (exec (.Expr (.Call (.Attribute (.Name x p) "append" apos) [e] [] pos) pe) env) Q E s := by
  rw [exec_Expr env _ _ (noRepl he) rfl]
  refine wpAny_bind (wpAny_standAt (wpAny_bind ?_))
  rw [arm_eval_Call, base_plain rfl]
  obtain ⟨m, ns, hv, ho⟩ := hs.loc.ns
  rw [how] at ho
  obtain ⟨b, vs, m', h1, h2, h3, h4, h7⟩ := ho
  refine wpAny_bind (wpAny_Name (wpAny_loadName_local he.kind (isLocal_of hsc hx) (he.loc.symm ▸ ns) h1 (wpAny_bind (wpAny_standAt ?_))) hd)
  have few : methodCallForm (([e] : List Expr).length + ([] : List Keyword).length) (backTo pos (starEach [e] env)) (backToKw pos (keywordEach [] env)) = true := by
    have : starEach [e] env = (false, eval e env) :: starEach [] env := by cases e <;> first | rfl | cases hp
    rw [this]
    rfl
  unfold methodCall
  rw [few]
  refine wpAny_bind (wpAny_holding (Calls.getMethod_list_append h4 rfl rfl ?_))
  have : methodCallPos true (.Name x p) env apos pos = pure pos := by
    unfold methodCallPos
    rw [hl]
    rfl
  dsimp only
  rw [this]
  refine wpAny_bind (wpAny_pure ?_)
  have st1 : starEach [e] env = (false, eval e env) :: starEach [] env := by cases e <;> first | rfl | cases hp
  refine Calls.callWith_builtin (by rw [st1]; rfl) ?_
  have main : wpAny (model prog w) A (eval e env) (fun v s₁ => wpAny (model prog w) A (call (.builtin "list.append") [.ref b, v]) (fun v s' => wpAny (model prog w) A (dropValue (.Call (.Attribute (.Name x p) "append" apos) [e] [] pos) pe v) Q E s') E s₁) E s := by
    refine ev_here k ok hg hA he hsc h hs hO fun v s₁ a st rv => ?_
    obtain ⟨m1, ns1, hv1, ho1⟩ := a.st.loc.ns
    rw [how] at ho1
    have h4' := st.keep _ _ h4 (notTab_cls rfl (by intro q; cases q)) (by simp)
    have h7' := h7.on st
    have hz' : vs.toArray.size ≤ sizeLine := by rw [List.size_toArray, h7.length]; exact Nat.le_trans hz (by decide)
    refine append_at h4' (fun h' hsb hg' => ?_) hz'
    have stb : Stp [b] s₁ { s₁ with heap := h' } := .same (t := s₁.toks) hsb (Nat.le_refl _)
    have hbO : ∀ u ∈ [b], u ∈ O := fun u hu => by rw [List.mem_singleton.mp hu]; exact (hs.loc.sub b h2).1
    have hLb : L ≠ b := fun q => h3 q.symm
    obtain ⟨m0, ns0, hv0, _⟩ := hs.loc.ns
    have mm : m = m1 := by
      obtain ⟨o1, es1, ep1, e1, d1, _, f1⟩ := ns
      obtain ⟨o2, es2, ep2, e2, d2, _, f2⟩ := ns1
      have e1' := st.keep _ _ e1 (notTab_dict d1) (by simp)
      have : o1 = o2 := Option.some.inj (e1'.symm.trans e2)
      subst this
      rw [d1] at d2
      cases d2
      funext y
      rw [← f1, ← f2]
    refine wpAny_dropValue (q _ (a.trans ⟨stb.mono fun u hu => by rw [List.mem_singleton.mp hu]; exact h2, ⟨a.st.inv.on k stb fun u hu => ?_, ⟨⟨m1, nsOn ns1 stb (by simpa using hLb), fun y d e => let ⟨v, e1, r⟩ := hv1 y d e; ⟨v, e1, r.on stb hbO⟩, ?_⟩, a.st.loc.out, a.st.loc.sub⟩, hs.bn⟩, a.low.on stb, fun _ => .inl, fun _ => id, fun _ => .inl, rfl⟩))
    · rw [List.mem_singleton.mp hu]; exact Nat.le_trans hs.bn (hs.loc.sub b h2).2
    · refine ⟨b, vs ++ [v], m' + 1, mm ▸ h1, h2, h3, ?_, ?_⟩
      · rw [hg']
        simp
      · exact ((RepL.append (.cons rv .nil) h7').on stb hbO)
  rw [st1]
  refine Calls.evalArgs_plain ?_
  refine Calls.spliced_cons ?_
  exact wpAny_mono main (fun v s₁ z => Calls.spliced_nil z) fun _ _ z => z

include k ok hg hset hA he hsc in
theorem store_self_ok {O W : List Addr} {ρ : PE} {s : Shared} {x a : Str} {C : Addr} {fs : List (Str × D)} {e : Expr} {d : D} {p ap pos : Pos} (hs : St K B O W N ρ L s) (hO : OLow O s) (how : ρ.own = .inst x C fs) (hx : isLocal c x = true) (hd : (x == ("__debug__" : Str)) = false) (hp : plainExpr e = true)
    (hC : c.setOk C a = true) (hz : fs.length ≤ 50) (h : ev (c.pc ρ) c.fuel e = some d) {Q : Flow → Shared → Prop} {E : Value → Shared → Prop}
    (q : ∀ s', After K B O W N L s O W { ρ with own := .inst x C (putF a d fs) } s' → Q .next s') : wpAny (model prog w) A (exec (.Assign [.Attribute (.Name x p) a ap] e pos) env) Q E s := by
  refine plainObj_wpAny_Assign_Attribute ?_ (noSwap hp)
  refine ev_here k ok hg hA he hsc h hs hO fun v s₁ af st rv => ?_
  obtain ⟨m, ns, hv, ho⟩ := af.st.loc.ns
  rw [how] at ho
  obtain ⟨b, dx, es, m', h1, h2, h3, h4, h0, h5, h6, h7⟩ := ho
  refine wpAny_Name (wpAny_loadName_local he.kind (isLocal_of hsc hx) (he.loc.symm ▸ ns) h1 ?_) hd
  refine setAttr_ok af.st.inv.X h5 h6 h7 (by omega) (hset _ _ hC) fun s₂ n' t stb hg' => ?_
  have hbO : ∀ u ∈ [dx], u ∈ O := fun u hu => by rw [List.mem_singleton.mp hu]; exact (hs.loc.sub dx h3).1
  have hLb : L ≠ dx := fun q => h4 q.symm
  refine q _ (af.trans ⟨stb.mono fun u hu => by rw [List.mem_singleton.mp hu]; exact h3, ⟨af.st.inv.on k stb fun u hu => ?_, ⟨⟨m, nsOn ns stb (by simpa using hLb), fun y d e => let ⟨v, e1, r⟩ := hv y d e; ⟨v, e1, r.on stb hbO⟩, ?_⟩, af.st.loc.out, af.st.loc.sub⟩, hs.bn⟩, af.low.on stb, fun _ => .inl, fun _ => id, fun _ => .inl, rfl⟩)
  · rw [List.mem_singleton.mp hu]; exact Nat.le_trans hs.bn (hs.loc.sub dx h3).2
  · exact ⟨b, dx, _, n', h1, h2, h3, h4, h0, stb.keep _ _ h5 (notTab_cls rfl (by intro q; cases q)) (by simpa using h0), hg', (RepF.put rv h7).on stb hbO⟩
end
end Mine
end
section
open PySem PySem.W PyProof.Rows
set_option maxRecDepth 100000
namespace Mine

theorem noFold {e : Expr} {env : Env} (h : plainExpr e = true) : ∀ x, foldedSetIterable e env x = pure x := fun x => by
  cases e <;> first | rfl | cases h

section
variable {prog : Program} {w : World} {K : Frag} {B : Nat} (k : Kok K B) {n : Nat} {c : FC} (ok : OpsOk prog w K B n c.ops) (hg : ∀ x v, c.glob x = some v → globIn K x = some v) (hset : ∀ C x, c.setOk C x = true → settable K C x = true)
variable {A : Around} (hA : Room A n) {N : Nat} {L : Addr} {env : Env} (he : EnvOk env L) (hsc : ScIs K env c.sc) {O₀ : List Addr} (h₀ : ∀ a ∈ O₀, a < N)

include k ok hg hA he hsc in
theorem iter_ok {O W : List Addr} {ρ : PE} {it : Expr} {l : List D} {s : Shared} (h : iterOf c ρ it = some l) (hs : St K B O W N ρ L s) (hO : OLow O s) {Q : Value → Shared → Prop} {E : Value → Shared → Prop}
    (q : ∀ si s' , Stp [] s si → s' = { si with heap := s'.heap } → Stp [] si s' → si.heap.objs.size < s'.heap.objs.size → IterD prog w A si.heap.objs.size O [s'.heap.objs.size - 1] l (.ref (s'.heap.objs.size - 1)) s' → Q (.ref (s'.heap.objs.size - 1)) s') :
    wpAny (model prog w) A (eval it env) (fun x s₁ => wpAny (model prog w) A (pyIter x) Q E s₁) E s := by
  have hf : ∀ e d, ev (c.pc ρ) c.fuel e = some d → EvOk prog w K B (c.pc ρ) A O W N L env e d := fun e d h => ev_ok k ok hg hA he hsc h
  have go : ∀ o s₁, Stp [] s s₁ → IterD prog w A s₁.heap.objs.size O [s₁.heap.objs.size] l (.ref s₁.heap.objs.size) { s₁ with heap := s₁.heap.push o } → Q (.ref s₁.heap.objs.size) { s₁ with heap := s₁.heap.push o } := by
    intro o s₁ x hit
    have hz : (s₁.heap.push o).objs.size - 1 = s₁.heap.objs.size := by rw [Heap.size_push]; rfl
    have := q s₁ { s₁ with heap := s₁.heap.push o } x rfl (.push ..) (by show _ < (s₁.heap.push o).objs.size; rw [Heap.size_push]; exact Nat.lt_succ_self _) (by show IterD _ _ _ _ _ [(s₁.heap.push o).objs.size - 1] _ (.ref ((s₁.heap.push o).objs.size - 1)) _; rw [hz]; exact hit)
    have e : (Value.ref ((s₁.heap.push o).objs.size - 1)) = .ref s₁.heap.objs.size := by rw [hz]
    rw [← e]
    exact this
  have tupI : ∀ {v s₁}, Stp [] s s₁ → Rep O s₁.heap v (.tup l) → wpAny (model prog w) A (pyIter v) Q E s₁ := by
    intro v s₁ x r
    obtain ⟨a, o, vs, m, rfl, ha, ho, hc, hd, rs⟩ := r.inv
    · have P := Stp.push s₁ { cls := .type "tuple_iterator", data := .fields #[.ref a, .int 0 0] }
      refine iter_tuple ⟨_, ho, hc, _, hd⟩ (go _ _ x ?_)
      refine iterD_tuple hA.handled (i := 0) ha (Heap.lt_size ho) (.inr (Nat.le_refl _)) (Nat.ne_of_lt (Heap.lt_size ho)) ⟨_, Heap.get?_push_size _ rfl, rfl, rfl⟩ (P.keep _ _ ho (notTab_cls hc (by intro q; cases q)) (by simp)) hc hd ?_
      exact RepLZ.on P (by simp) (RepLZ.of (by simpa using rs))
  have listI : ∀ {v s₁}, Stp [] s s₁ → Rep O s₁.heap v (.list l) → wpAny (model prog w) A (pyIter v) Q E s₁ := by
    intro v s₁ x r
    obtain ⟨a, o, vs, m, rfl, ha, ho, hc, hd, rs⟩ := r.inv
    · have P := Stp.push s₁ { cls := .type "list_iterator", data := .fields #[.ref a, .int 0 0] }
      refine wpAny_pyIter_list ⟨_, ho, hc, _, hd⟩ (go _ _ x ?_)
      refine iterD_list hA.handled (i := 0) ha (Heap.lt_size ho) (Nat.le_refl _) ⟨_, Heap.get?_push_size _ rfl, rfl, rfl⟩ (P.keep _ _ ho (notTab_cls hc (by intro q; cases q)) (by simp)) hc hd ?_
      exact RepLZ.on P (by simp) (RepLZ.of (by simpa using rs))
  have plain : ∀ {e : Expr}, (match ev (c.pc ρ) c.fuel e with
      | some (.tup l) => some l
      | some (.list l) => some l
      | _ => none) = some l → wpAny (model prog w) A (eval e env) (fun x s₁ => wpAny (model prog w) A (pyIter x) Q E s₁) E s := by
    intro e h
    split at h
    · rename_i l' he
      cases h
      exact hf _ _ he s hs hO _ _ fun v s₁ x r => tupI x r
    · rename_i l' he
      cases h
      exact hf _ _ he s hs hO _ _ fun v s₁ x r => listI x r
    · cases h
  unfold iterOf at h
  split at h
  · rename_i f fp e p
    split at h
    · rename_i hr
      split at h
      · rename_i i hev
        split at h
        · rename_i hi
          cases h
          obtain ⟨hr, pe⟩ := Bool.and_eq_true_iff.mp hr
          have st1 : starEach [e] env = (false, eval e env) :: starEach [] env := by cases e <;> first | rfl | cases pe
          rw [arm_eval_Call_Name']
          refine wpAny_bind (globIs_ok k hg he hsc hr hs.inv ?_)
          refine PyProof.Rows.callWith_type1 (rest := []) (wpAny_items_cons (rest := []) (hf _ _ hev s hs hO _ _ fun v s₁ x r => wpAny_items_nil ?_) st1) st1
          obtain ⟨t, rfl⟩ := r.inv
          refine call_range_1 ?_
          have P : Stp [] s₁ { s₁ with heap := s₁.heap.push { cls := .type "range", data := .fields #[.int 0 s₁.toks, .int i t, .int 1 (s₁.toks + 1)] }, toks := s₁.toks + 1 + 1 } := (Stp.push s₁ _).tr (.toks (by show s₁.toks ≤ _; omega))
          refine wpAny_pyIter_range (Heap.get?_push_size _ rfl) (small_one (by omega) (by omega) (by omega) (by omega)) ?_
          have sz : Builtin.Range.rangeSize 0 i 1 = ((i.toNat : Nat) : Int) := by rw [rangeSize_one]; split <;> omega
          rw [sz]
          refine go _ _ (x.tr P) ?_
          exact iterD_range hA.handled (i := 0) (Nat.le_refl _) (Nat.lt_of_lt_of_le hs.inv.tok (x.tr P).tok) (Heap.get?_push_size _ rfl)
        · cases h
      · cases h
    · exact plain h
  · exact plain h
end
end Mine
end
section
open PySem PySem.W PyProof.Rows
set_option maxRecDepth 100000
namespace Mine

theorem LocOk.more {O W : List Addr} {N : Nat} {ρ : PE} {L a : Addr} {s s' : Shared} (l : LocOk O W N ρ L s.heap) (x : Stp [] s s') (ha : s.heap.objs.size ≤ a) : LocOk (a :: O) W N ρ L s'.heap := by
  refine LocOk.on (s := s) ?_ x
  have kp : KeepFor O s.heap s.heap := fun _ _ e _ _ => e
  have sub : ∀ b o, b ∈ a :: O → s.heap.get? b = some o → b ∈ O := fun b o hb e => (List.mem_cons.mp hb).elim (fun q => absurd (Heap.lt_size e) (by rw [q]; exact Nat.not_lt.mpr ha)) id
  obtain ⟨⟨m, ns, hv, ho⟩, h1, h2⟩ := l
  refine ⟨⟨m, ns, fun y d e => let ⟨v, e1, r⟩ := hv y d e; ⟨v, e1, r.keep kp sub⟩, ?_⟩, h1, fun b hb => ⟨.tail _ (h2 b hb).1, (h2 b hb).2⟩⟩
  cases how : ρ.own with
  | none => trivial
  | lst y l =>
    rw [how] at ho
    obtain ⟨b, vs, n, h1, h2, h3, h4, h7⟩ := ho
    exact ⟨b, vs, n, h1, h2, h3, h4, h7.keep kp sub⟩
  | inst y C fs =>
    rw [how] at ho
    obtain ⟨c, dx, es, n, h1, h2, h3, h4, h0, h5, h6, h7⟩ := ho
    exact ⟨c, dx, es, n, h1, h2, h3, h4, h0, h5, h6, h7.keep kp sub⟩

theorem noSwapped {env : Env} {e t : Expr} (h : notTuple e = true) : swappedStores [t] e env = pure none := by
  unfold swappedStores
  split
  · rename_i heq
    split at heq
    · cases h
    · cases h
    · cases heq
  · rfl

section
variable {prog : Program} {w : World} {K : Frag} {B : Nat} (k : Kok K B) {n : Nat} {c : FC} (ok : OpsOk prog w K B n c.ops) (hg : ∀ x v, c.glob x = some v → globIn K x = some v) (hset : ∀ C x, c.setOk C x = true → settable K C x = true)
variable {A : Around} (hA : Room A n) {N : Nat} {L : Addr} {env : Env} (he : EnvOk env L) (hsc : ScIs K env c.sc) {O₀ : List Addr} (h₀ : ∀ a ∈ O₀, a < N)

include k ok hg hA he hsc in
theorem drop_ok {O W : List Addr} {ρ : PE} {s : Shared} {e : Expr} {pe : Pos} {d : D} (hp : plainExpr e = true) (h : ev (c.pc ρ) c.fuel e = some d) (hs : St K B O W N ρ L s) (hO : OLow O s) {Q : Flow → Shared → Prop} {E : Value → Shared → Prop}
    (q : ∀ s', After K B O W N L s O W ρ s' → Q .next s') : wpAny (model prog w) A (exec (.Expr e pe) env) Q E s := by
  rw [exec_Expr env _ _ (noRepl he) (noSwap hp)]
  refine wpAny_bind (wpAny_standAt (wpAny_bind (ev_here k ok hg hA he hsc h hs hO fun v s₁ a st rv => ?_)))
  exact wpAny_dropValue (q _ a)

include k ok hg hset hA he hsc h₀ in
theorem exStep_ok {f : PE → List Stmt → Option (PFlow × PE)} (hf : ExsOk prog w K B A N L env O₀ f) {ρ ρ' : PE} {st : Stmt} {fl : PFlow} (h : exStep c f ρ st = some (fl, ρ')) {O W : List Addr} {s : Shared} (hs : St K B O W N ρ L s) (hO : OLow O s) (h0 : ∀ a ∈ O₀, a ∈ O)
    {Q : Flow → Shared → Prop} {E : Value → Shared → Prop} (q : ∀ flv s' O' W', After K B O W N L s O' W' ρ' s' → FlowIs O₀ s'.heap flv fl → Q flv s') : wpAny (model prog w) A (exec st env) Q E s := by
  have same : ∀ {flv}, FlowIs O₀ s.heap flv fl → ρ = ρ' → Q flv s := fun fi e => q _ s O W (by rw [← e]; exact After.here k hs hO (.refl _ _)) fi
  unfold exStep at h
  split at h
  · cases h; exact wpAny_Pass (same trivial rfl)
  · cases h; exact wpAny_Break (same trivial rfl)
  · cases h; exact wpAny_Continue (same trivial rfl)
  · -- return
    rename_i v pos
    split at h
    · cases h; exact wpAny_Return_none (same .none rfl)
    · rename_i e
      obtain ⟨d, hd, h⟩ := Option.map_eq_some_iff.mp h
      cases h
      have hz := hs.freeze h0 h₀
      have lowz : OLow (L :: O₀) s := fun a ha => (List.mem_cons.mp ha).elim (fun e => e ▸ hO L (hs.loc.sub L hs.loc.out).1) fun e => hO a (h0 a e)
      refine wpAny_Return_some (ev_ok k ok hg hA he hsc hd s hz lowz _ _ fun v s₁ x r => ?_)
      exact q _ _ _ _ (.here k hs hO x) (r.keep (fun _ _ e _ _ => e) fun b o hb _ => .tail _ hb)
  · -- assign
    rename_i tg e pos
    split at h
    · rename_i t
      split at h
      · -- a name
        rename_i x xp
        split at h
        · rename_i hp
          split at h
          · split at h
            · rename_i l how hl
              split at h
              · rename_i hx
                cases h
                exact wpAny_Assign_Name (fresh_ok k ok hg hA he hsc hl hs hO fun s₁ vs x₁ rs => own_ok k he hsc (hs.on k x₁) (hO.on x₁) hx how rs fun s₂ a => q _ _ _ _ ((After.here k hs hO x₁).trans a) trivial) (noSwap hp)
              · cases h
            · cases h
          · split at h
            · rename_i hx
              obtain ⟨d, hd, h⟩ := Option.map_eq_some_iff.mp h
              cases h
              exact wpAny_Assign_Name (ev_here k ok hg hA he hsc hd hs hO fun v s₁ a x r => store_ok k he hsc a.st a.low hx r fun s₂ b => q _ _ _ _ (a.trans b) trivial) (noSwap hp)
            · cases h
        · cases h
      · -- names
        rename_i ts kd tp
        split at h
        · rename_i hp
          obtain ⟨hp, ht⟩ := Bool.and_eq_true_iff.mp hp
          obtain ⟨d, hd, h⟩ := Option.bind_eq_some_iff.mp h
          obtain ⟨ρ₁, hb, h⟩ := Option.map_eq_some_iff.mp h
          cases h
          exact Assign_Tuple (ev_here k ok hg hA he hsc hd hs hO fun v s₁ a x r => bindT_ok k hA he hsc hb a.st a.low r fun s₂ b => q _ _ _ _ (a.trans b) trivial) (show swapsWithSole [.Tuple ts kd tp] e pos.line env = pure false from (noSwap (t := some (.Tuple ts kd tp)) hp : swapsWith e (some (.Tuple ts kd tp)) pos.line env = pure false)) (noSwapped ht)
        · cases h
      · -- an attribute of the object under construction
        rename_i v a ap
        split at h
        · rename_i y yp
          split at h
          · rename_i hp
            split at h
            · rename_i x C fs d how hd
              split at h
              · rename_i hc
                obtain ⟨rfl, h1, h2, h3, h4⟩ := hc
                cases h
                exact store_self_ok k ok hg hset hA he hsc hs hO how h1 h2 hp h3 h4 hd fun s' a => q _ _ _ _ a trivial
              · cases h
            · cases h
          · cases h
        · cases h
      · cases h
    · cases h
  · -- if
    rename_i t b o pos
    split at h
    · rename_i ht
      exact wpAny_If (tv_ok k ok hg hA he hsc ht s hs hO _ _ fun s₁ x => hf _ _ _ _ h O W s₁ (hs.on k x) (hO.on x) h0 _ _ fun flv s' O' W' a fi => q _ _ _ _ ((After.here k hs hO x).trans a) fi)
    · rename_i ht
      exact wpAny_If (tv_ok k ok hg hA he hsc ht s hs hO _ _ fun s₁ x => hf _ _ _ _ h O W s₁ (hs.on k x) (hO.on x) h0 _ _ fun flv s' O' W' a fi => q _ _ _ _ ((After.here k hs hO x).trans a) fi)
    · cases h
  · -- assert
    rename_i t m pos
    split at h
    · rename_i ht
      cases h
      exact wpAny_Assert_holds (tv_ok k ok hg hA he hsc ht s hs hO _ _ fun s₁ x => ⟨rfl, q _ _ _ _ (.here k hs hO x) trivial⟩)
    · cases h
  · -- an expression
    rename_i v pe
    split at h
    · rename_i y p a apos e pos hap
      have hap := appOf_inv hap
      subst hap
      have other : (ev (c.pc ρ) c.fuel (.Call (.Attribute (.Name y p) a apos) [e] [] pos)).map (fun _ => (PFlow.next, ρ)) = some (fl, ρ') → wpAny (model prog w) A (exec (.Expr (.Call (.Attribute (.Name y p) a apos) [e] [] pos) pe) env) Q E s := by
        intro h
        obtain ⟨d, hd, h⟩ := Option.map_eq_some_iff.mp h
        cases h
        exact drop_ok k ok hg hA he hsc rfl hd hs hO fun s' a => q _ _ _ _ a trivial
      split at h
      · rename_i x l how
        split at h
        · rename_i hxy
          subst hxy
          split at h
          · rename_i hc
            obtain ⟨rfl, h1, h2, h3, h4, h5⟩ := hc
            obtain ⟨d, hd, h⟩ := Option.map_eq_some_iff.mp h
            cases h
            exact append_ok k ok hg hA he hsc hs hO how h1 h2 h3 h4 h5 hd fun s' a => q _ _ _ _ a trivial
          · cases h
        · exact other h
      · exact other h
    · rename_i hne
      split at h
      · rename_i hp
        obtain ⟨d, hd, h⟩ := Option.map_eq_some_iff.mp h
        cases h
        exact drop_ok k ok hg hA he hsc hp hd hs hO fun s' a => q _ _ _ _ a trivial
      · cases h
  · -- for
    rename_i tg it body els pos
    split at h
    · rename_i x xp
      split at h
      · rename_i hp
        split at h
        · rename_i l hl
          refine wpAny_For (iter_ok k ok hg hA he hsc hl hs hO fun si s' x₁ e₁ x₂ hz hit => ?_) (noFold hp)
          have hsi := hs.on k x₁
          have hs' := hsi.on k x₂
          have aO : s'.heap.objs.size - 1 ∉ O := fun ha => by have this : s'.heap.objs.size - 1 < si.heap.objs.size := hO.on x₁ _ ha; omega
          have hB : B ≤ si.heap.objs.size := hsi.inv.base
          refine loop_ok (O₀ := O₀) (O := O) (W := W) (si := si) (a := s'.heap.objs.size - 1) k hA he hsc (f := fun ρ => f ρ body) (fun ρ₁ fl₁ ρ₂ hh O W s hs hO h0 Q E q => hf _ _ _ _ hh O W s hs hO h0 Q E q) h ?_ ?_ h0 (fun ha => aO (hs.loc.sub _ ha).1) (by omega) hB x₂.wide hit ?_
          · exact ⟨hs'.inv, hsi.loc.more x₂ (by omega), hs'.bn⟩
          · exact fun b hb => (List.mem_cons.mp hb).elim (fun q => by subst q; exact Nat.sub_lt (Nat.lt_of_le_of_lt (Nat.zero_le _) hz) Nat.one_pos) fun q => (hO.on x₁).on x₂ b q
          · intro flv s₃ O' W' a fi
            exact q _ _ _ _ ((After.here k hs hO x₁).trans a) fi
        · cases h
      · cases h
    · cases h
  · cases h
end
end Mine
end
section
open PySem PySem.W PyProof.Rows
set_option maxRecDepth 100000
namespace Mine

section
variable {prog : Program} {w : World} {K : Frag} {B : Nat} (k : Kok K B) {n : Nat} {c : FC} (ok : OpsOk prog w K B n c.ops) (hg : ∀ x v, c.glob x = some v → globIn K x = some v) (hset : ∀ C x, c.setOk C x = true → settable K C x = true)
variable {A : Around} (hA : Room A n) {N : Nat} {L : Addr} {env : Env} (he : EnvOk env L) (hsc : ScIs K env c.sc) {O₀ : List Addr} (h₀ : ∀ a ∈ O₀, a < N)

include k ok hg hset hA he hsc h₀ in
theorem exs_ok : ∀ m, ExsOk prog w K B A N L env O₀ (exs c m)
  | 0 => fun ρ stmts fl ρ' h => by cases stmts <;> cases h
  | m + 1 => fun ρ stmts fl ρ' h O W s hs hO h0 Q E q => by
    cases stmts with
    | nil => cases h; exact wpAny_execs_nil (q _ _ _ _ (.here k hs hO (.refl _ _)) trivial)
    | cons st r =>
      unfold exs at h
      split at h
      · rename_i ρ₁ h1
        refine wpAny_execs_cons (exStep_ok k ok hg hset hA he hsc h₀ (exs_ok m) h1 hs hO h0 fun flv s' O' W' a fi => ?_)
        cases flv <;> first | exact fi.elim | skip
        exact exs_ok m _ _ _ _ h _ _ _ a.st a.low (fun b hb => a.oSup b (h0 b hb)) _ _ fun flv s₂ O₂ W₂ b fi => q _ _ _ _ (a.trans b) fi
      · rename_i hne
        refine wpAny_execs_cons (exStep_ok k ok hg hset hA he hsc h₀ (exs_ok m) h hs hO h0 fun flv s' O' W' a fi => ?_)
        have z := q _ _ _ _ a fi
        cases flv with
        | next =>
          cases fl with
          | next => exact absurd h (hne _)
          | brk => exact fi.elim
          | cont => exact fi.elim
          | ret d => exact fi.elim
        | brk => exact z
        | cont => exact z
        | ret v => exact z
end

/-- binding of arguments -/
noncomputable def slotsKw {α : Type} (normal : List Str) : List (Str × α) → List (Str × α) → Option (List (Str × α))
  | [], sl => some sl
  | (k, v) :: r, sl => if normal.contains k && (sl.lookup k).isNone then slotsKw normal r (sl ++ [(k, v)]) else none
noncomputable def slotsD {α : Type} : List (Str × α) → List (Str × α) → List (Str × α)
  | [], sl => sl
  | (n, d) :: r, sl => slotsD r (if (sl.lookup n).isNone then sl ++ [(n, d)] else sl)
noncomputable def bindL {α : Type} (normal : List Str) (pos : List α) (kw : List (Str × α)) (dfl : List α) : Option (List (Str × α)) :=
  if pos.length > normal.length then none else match slotsKw normal kw (normal.zip pos) with
  | none => none
  | some sl =>
    let dfl := dfl.drop (dfl.length - normal.length)
    let first := normal.length - dfl.length
    if ((normal.take first).filter fun n => (sl.lookup n).isNone).isEmpty then
      let sl := slotsD ((normal.drop first).zip dfl) sl
      some (normal.filterMap fun n => (sl.lookup n).map (n, ·)) else none

noncomputable def plainParams (p : Arguments) : Bool := p.posonlyargs.isEmpty && p.kwonlyargs.isEmpty && p.vararg.isNone && p.kwarg.isNone

theorem forKw {normal : List Str} {f : Str × Value → List (Str × Value) × List (Str × Value) → Sem (ForInStep (List (Str × Value) × List (Str × Value)))}
    (hf : ∀ x sl, normal.contains x.1 = true → (List.lookup x.1 sl).isNone = true → f x (sl, []) = pure (.yield (sl ++ [(x.1, x.2)], []))) :
    ∀ {kws sl sl' : List (Str × Value)}, slotsKw normal kws sl = some sl' → forIn kws (sl, []) f = pure (sl', [])
  | [], sl, sl', h => by cases h; rfl
  | (k, v) :: r, sl, sl', h => by
    unfold slotsKw at h
    split at h
    · rename_i hc
      obtain ⟨h1, h2⟩ := Bool.and_eq_true_iff.mp hc
      rw [List.forIn_cons, hf _ _ h1 h2]
      exact (pure_bind _ _).trans (forKw hf h)
    · cases h
theorem forD {f : Str × Value → List (Str × Value) → Sem (ForInStep (List (Str × Value)))}
    (hf : ∀ x sl, f x sl = pure (.yield (if (List.lookup x.1 sl).isNone then sl ++ [(x.1, x.2)] else sl))) : ∀ {l sl : List (Str × Value)}, forIn l sl f = pure (slotsD l sl)
  | [], sl => rfl
  | (n, d) :: r, sl => by
    rw [List.forIn_cons, hf]
    exact (pure_bind _ _).trans (forD hf)

theorem bindArgs_eq {fd : FuncData} {args : Args} {items : Option (Array Value)} {binds : List (Str × Value)} (hp : plainParams fd.params = true) (h : bindL (fd.params.args.map (·.arg)) args.pos args.kw (items.getD #[]).toList = some binds) :
    ∃ k : Option (Array Value) → Sem (List (Str × Value)), bindArgs fd args = seqItems? fd.defaults >>= k ∧ k items = pure binds := by
  obtain ⟨name, qual, ⟨po, ar, va, ko, kd, kw, df⟩, body, sc, gl, cl, dV, kV, doc, pm, an, cd, ct, bi⟩ := fd
  obtain ⟨pos, kws⟩ := args
  unfold plainParams at hp
  simp only [Bool.and_eq_true, List.isEmpty_iff, Option.isNone_iff_eq_none] at hp
  obtain ⟨⟨⟨rfl, rfl⟩, rfl⟩, rfl⟩ := hp
  dsimp only at h ⊢
  unfold bindArgs
  dsimp only
  unfold bindL at h
  split at h
  · cases h
  · rename_i hlen
    split at h
    · cases h
    · rename_i sl hsl
      simp only [List.map_nil, List.nil_append, List.contains_nil, Bool.or_false, List.append_nil]
      refine ⟨?k, ?a, ?b⟩
      case a =>
        rw [forKw (normal := ar.map (·.arg)) (fun x sl h1 h2 => by
          have h2' : (List.lookup x.1 sl).isSome = false := by simpa using h2
          simp only [h1, h2', if_true, Bool.false_eq_true, if_false]) hsl]
        rw [pure_bind]
      case b =>
        dsimp only at h ⊢
        split at h
        · rename_i hm
          cases h
          have hl : (decide (pos.length > (ar.map (·.arg)).length) && (Option.none : Option Arg).isNone) = false := by simpa using hlen
          simp only [hl, hm, Bool.false_eq_true, if_false, Bool.not_true]
          rw [forD (fun x sl => by split <;> rfl)]
          rfl
        · cases h
end Mine
end
section
open PySem PySem.W PyProof.Rows
set_option maxRecDepth 100000
namespace Mine

/-- names bound alike on both sides -/
inductive RepB (R : Value → D → Prop) : List (Str × Value) → List (Str × D) → Prop where
  | nil : RepB R [] []
  | cons {n : Str} {v : Value} {d : D} {vs : List (Str × Value)} {ds : List (Str × D)} : R v d → RepB R vs ds → RepB R ((n, v) :: vs) ((n, d) :: ds)
inductive AllR (R : Value → D → Prop) : List Value → List D → Prop where
  | nil : AllR R [] []
  | cons {v : Value} {d : D} {vs : List Value} {ds : List D} : R v d → AllR R vs ds → AllR R (v :: vs) (d :: ds)
theorem RepL.all {O : List Addr} {h : Heap} {R : Value → D → Prop} (k : ∀ v d, Rep O h v d → R v d) : ∀ {vs : List Value} {ds : List D}, RepL O h vs ds → AllR R vs ds
  | _, _, .nil => .nil
  | _, _, .cons a b => .cons (k _ _ a) (b.all k)
section
variable {R : Value → D → Prop}
theorem AllR.length : ∀ {vs : List Value} {ds : List D}, AllR R vs ds → vs.length = ds.length
  | _, _, .nil => rfl
  | _, _, .cons _ b => congrArg (· + 1) b.length
theorem RepB.look : ∀ {vs : List (Str × Value)} {ds : List (Str × D)}, RepB R vs ds → ∀ n, (vs.lookup n = none ∧ ds.lookup n = none) ∨ ∃ v d, vs.lookup n = some v ∧ ds.lookup n = some d ∧ R v d
  | _, _, .nil, n => .inl ⟨rfl, rfl⟩
  | _, _, .cons (n := m) r rs, n => by
    rw [List.lookup_cons, List.lookup_cons]
    by_cases e : n = m
    · subst e
      simp only [beq_self_eq_true]
      exact .inr ⟨_, _, rfl, rfl, r⟩
    · rw [beq_eq_false_iff_ne.mpr e]
      exact rs.look n
theorem RepB.isNone {vs : List (Str × Value)} {ds : List (Str × D)} (x : RepB R vs ds) (n : Str) : (vs.lookup n).isNone = (ds.lookup n).isNone := by
  rcases x.look n with ⟨a, b⟩ | ⟨v, d, a, b, _⟩ <;> rw [a, b] <;> rfl
theorem RepB.append {us : List (Str × Value)} {bs : List (Str × D)} (y : RepB R us bs) : ∀ {vs : List (Str × Value)} {ds : List (Str × D)}, RepB R vs ds → RepB R (vs ++ us) (ds ++ bs)
  | _, _, .nil => y
  | _, _, .cons a b => .cons a (y.append b)
theorem RepB.zip : ∀ {ns : List Str} {vs : List Value} {ds : List D}, AllR R vs ds → RepB R (ns.zip vs) (ns.zip ds)
  | [], _, _, _ => .nil
  | _ :: _, _, _, .nil => .nil
  | n :: ns, _, _, .cons a b => .cons a (RepB.zip b)
theorem RepB.kw : ∀ {ks : List (Str × D)} {vs : List Value}, AllR R vs (ks.map (·.2)) → RepB R ((ks.map (·.1)).zip vs) ks
  | [], _, .nil => .nil
  | (n, d) :: ks, _, .cons a b => .cons a (RepB.kw b)
theorem RepB.slotsKw {normal : List Str} : ∀ {kv : List (Str × Value)} {kd : List (Str × D)}, RepB R kv kd → ∀ {vs : List (Str × Value)} {ds : List (Str × D)}, RepB R vs ds → ∀ {r : List (Str × D)}, Mine.slotsKw normal kd ds = some r → ∃ r', Mine.slotsKw normal kv vs = some r' ∧ RepB R r' r
  | _, _, .nil, _, _, x, r, e => by cases e; exact ⟨_, rfl, x⟩
  | _, _, .cons (n := n) a b, vs, ds, x, r, e => by
    unfold Mine.slotsKw at e ⊢
    rw [x.isNone n]
    split at e
    · rename_i hc
      rw [if_pos hc]
      exact b.slotsKw (RepB.append (.cons a .nil) x) e
    · cases e
theorem RepB.slotsD : ∀ {kv : List (Str × Value)} {kd : List (Str × D)}, RepB R kv kd → ∀ {vs : List (Str × Value)} {ds : List (Str × D)}, RepB R vs ds → RepB R (Mine.slotsD kv vs) (Mine.slotsD kd ds)
  | _, _, .nil, _, _, x => x
  | _, _, .cons (n := n) a b, vs, ds, x => by
    unfold Mine.slotsD
    rw [x.isNone n]
    refine b.slotsD ?_
    split
    · exact RepB.append (.cons a .nil) x
    · exact x
theorem RepB.pick {vs : List (Str × Value)} {ds : List (Str × D)} (x : RepB R vs ds) : ∀ ns : List Str, RepB R (ns.filterMap fun n => (vs.lookup n).map (n, ·)) (ns.filterMap fun n => (ds.lookup n).map (n, ·))
  | [] => .nil
  | n :: ns => by
    rw [List.filterMap_cons, List.filterMap_cons]
    rcases x.look n with ⟨a, b⟩ | ⟨v, d, a, b, r⟩ <;> rw [a, b]
    · exact x.pick ns
    · exact .cons r (x.pick ns)
theorem AllR.drop : ∀ {vs : List Value} {ds : List D} (i : Nat), AllR R vs ds → AllR R (vs.drop i) (ds.drop i)
  | _, _, 0, x => x
  | _, _, _ + 1, .nil => .nil
  | _, _, i + 1, .cons _ b => b.drop i
theorem bindL_rep {normal : List Str} {pos : List Value} {pd : List D} {kv : List (Str × Value)} {kd : List (Str × D)} {dv : List Value} {dd : List D} (hp : AllR R pos pd) (hk : RepB R kv kd) (hd : AllR R dv dd) {r : List (Str × D)}
    (e : bindL normal pd kd dd = some r) : ∃ r', bindL normal pos kv dv = some r' ∧ RepB R r' r := by
  unfold bindL at e ⊢
  rw [hp.length, hd.length]
  split at e
  · cases e
  · rename_i hl
    rw [if_neg hl]
    split at e
    · cases e
    · rename_i sl hsl
      obtain ⟨sl', h1, h2⟩ := hk.slotsKw (RepB.zip hp) hsl
      rw [h1]
      dsimp only at e ⊢
      have hdd := hd.drop (dd.length - normal.length)
      rw [hdd.length]
      have hf : (fun n => (sl'.lookup n).isNone) = fun n => (sl.lookup n).isNone := funext fun n => h2.isNone n
      rw [hf]
      split at e
      · rename_i hm
        rw [if_pos hm]
        cases e
        exact ⟨_, rfl, RepB.pick ((RepB.zip hdd).slotsD h2) normal⟩
      · cases e
theorem RepB.local {sc : Scope} : ∀ {vs : List (Str × Value)} {ds : List (Str × D)}, RepB R vs ds → (ds.all fun y => sc.names.lookup y.1 == some .local) = true → ∀ y ∈ vs, sc.names.lookup y.1 = some .local
  | _, _, .nil, _, y, hy => by cases hy
  | _, _, .cons (n := n) a b, e, y, hy => by
    rw [List.all_cons, Bool.and_eq_true, beq_iff_eq] at e
    rcases List.mem_cons.mp hy with q | q
    · rw [q]; exact e.1
    · exact b.local e.2 y q
theorem RepB.rev {vs : List (Str × Value)} {ds : List (Str × D)} (x : RepB R vs ds) : RepB R vs.reverse ds.reverse := by
  induction x with
  | nil => exact .nil
  | cons r rs ih =>
    rw [List.reverse_cons, List.reverse_cons]
    exact RepB.append (.cons r .nil) ih
end

/-- data of constants that stand in the heap's fixed part -/
noncomputable def valD : Value → Option D
  | .none => some .none
  | .bool b => some (.bool b)
  | .int i t => some (.int i)
  | .str x t => if x.length ≤ sizeLine then some (.str x) else none
  | _ => none
theorem valD_ok {O : List Addr} {h : Heap} {v : Value} {d : D} (e : valD v = some d) : Rep O h v d := by
  unfold valD at e
  split at e
  · cases e; exact .none
  · cases e; exact .bool _
  · cases e; exact .int _ _
  · split at e
    · rename_i ht; cases e; exact .str _ _ ht
    · cases e
  · cases e
noncomputable def valsD : List Value → Option (List D)
  | [] => some []
  | v :: r => (valD v).bind fun d => (valsD r).map (d :: ·)
theorem valsD_ok {O : List Addr} {h : Heap} : ∀ {vs : List Value} {ds : List D}, valsD vs = some ds → RepL O h vs ds
  | [], ds, e => by cases e; exact .nil
  | v :: r, ds, e => by
    unfold valsD at e
    obtain ⟨d, h1, e⟩ := Option.bind_eq_some_iff.mp e
    obtain ⟨l, h2, rfl⟩ := Option.map_eq_some_iff.mp e
    exact .cons (valD_ok h1) (valsD_ok h2)
/-- the defaults of a function -/
noncomputable def dfl (K : Frag) : Value → Option (List D)
  | .none => some []
  | .ref T => match K.lookup T with
    | some ⟨_, _, .seq items _, _⟩ => valsD items.toList
    | _ => none
  | _ => none

noncomputable def fnAt (K : Frag) (f : Addr) : Option FuncData := match K.lookup f with
  | some ⟨_, _, .func fd, _⟩ => some fd
  | _ => none
noncomputable def fnGood (K : Frag) (fd : FuncData) : Bool :=
  plainParams fd.params && codeIn K fd.code fd.qualname && fd.globals == mainGlobals && fd.builtins == builtinsNs && !fd.scope.isCoroutine && !fd.scope.isGenerator && fd.scope.kind == .function && fd.scope.names.all (fun x => x.2 != .cell) && codeTab K fd.code

/-- the run of a function of the fixed part -/
noncomputable def runF (K : Frag) (ownv : Addr → Option Str) (setOk : Addr → Str → Bool) (ops : Ops) (f : Addr) (args : List D) (kws : List (Str × D)) : Option D :=
  match fnAt K f with
  | some fd => if fnGood K fd then match fd.body, dfl K fd.defaults with
    | .stmts body, some dd => match bindL (fd.params.args.map (·.arg)) args kws dd with
      | some b => if b.all fun y => fd.scope.names.lookup y.1 == some .local then match exs ⟨fd.scope, globIn K, ops, ownv f, setOk, 40⟩ 60 ⟨b.reverse, .none⟩ body with
        | some (.ret d, _) => some d
        | some (.next, _) => some .none
        | _ => none
        else none
      | none => none
    | _, _ => none
    else none
  | none => none

theorem fnAt_get {K : Frag} {f : Addr} {fd : FuncData} (e : fnAt K f = some fd) : ∃ oc od osl, K.lookup f = some ⟨oc, od, .func fd, osl⟩ := by
  unfold fnAt at e
  split at e
  · rename_i q; cases e; exact ⟨_, _, _, q⟩
  · cases e

section
variable {prog : Program} {w : World} {K : Frag} {B : Nat} (k : Kok K B) {n : Nat} {ops : Ops} (ok : OpsOk prog w K B n ops) {A : Around} (hA : Room A (n + 1))
include k ok hA in
theorem code_fn {ownv : Addr → Option Str} {f : Addr} {args : List D} {kws : List (Str × D)} {d : D} (h : runF K ownv (settable K) ops f args kws = some d) {O : List Addr} {s : Shared} (I : Inv K B s) (hO : OLow O s) {vs kv : List Value} (ra : RepL O s.heap vs args) (rk : RepL O s.heap kv (kws.map (·.2))) :
    ∀ (Q : Value → Shared → Prop) (E : Value → Shared → Prop), (∀ v s', Stp [] s s' → Rep O s'.heap v d → Q v s') → codeAny (model prog w) A (.call (.ref f) ⟨vs, (kws.map (·.1)).zip kv⟩) (fun r s' => match r with | .ok (.ret v) => Q v s' | .ok _ => False | .error e => E e s') s := by
  intro Q E q
  unfold runF at h
  split at h
  · rename_i fd hf
    obtain ⟨oc, od, osl, hl⟩ := fnAt_get hf
    split at h
    · rename_i hgood
      unfold fnGood at hgood
      simp only [Bool.and_eq_true, beq_iff_eq, Bool.not_eq_true'] at hgood
      obtain ⟨⟨⟨⟨⟨⟨⟨⟨hp, hcd⟩, hgl⟩, hbl⟩, hco⟩, hgen⟩, hk⟩, hcell⟩, hct⟩ := hgood
      split at h
      · rename_i body dd hbody hdd
        split at h
        · rename_i b hb
          split at h
          · rename_i hloc
            obtain ⟨X, lim, tok, base, tabsI, glob⟩ := I
            have bind : ∃ bv, BindsTo s fd ⟨vs, (kws.map (·.1)).zip kv⟩ bv ∧ RepB (Rep O s.heap) bv b := by
              unfold dfl at hdd
              split at hdd
              · rename_i hd0
                cases hdd
                obtain ⟨bv, h1, h2⟩ := bindL_rep (ra.all fun _ _ x => x) (RepB.kw (rk.all fun _ _ x => x)) .nil hb
                obtain ⟨kk, e1, e2⟩ := bindArgs_eq (fd := fd) (args := ⟨vs, (kws.map (·.1)).zip kv⟩) (items := none) hp h1
                refine ⟨bv, BindsTo.of_eq ?_, h2⟩
                rw [e1, hd0, ← e2]
                rfl
              · rename_i T hd0
                split at hdd
                · rename_i oc' od' items nn osl' hT
                  obtain ⟨bv, h1, h2⟩ := bindL_rep (ra.all fun _ _ x => x) (RepB.kw (rk.all fun _ _ x => x)) ((valsD_ok hdd).all fun _ _ x => x) hb
                  obtain ⟨kk, e1, e2⟩ := bindArgs_eq (fd := fd) (args := ⟨vs, (kws.map (·.1)).zip kv⟩) (items := some items) hp h1
                  exact ⟨bv, BindsTo.of_defaults hd0 (X _ _ hT) rfl e1 e2, h2⟩
                · cases hdd
              · cases hdd
            obtain ⟨bv, hbind, hrep⟩ := bind
            refine codeAny_call_def (hroom := by have := hA.depth; omega) (X _ _ hl) rfl lim (codeRec_of X hcd) hbody hbind (fun x hx => ?_) (hrep.local hloc) (fun h₀ hns hk₀ => ?_) hco hgen hk
            · have := List.all_eq_true.mp hcell x hx
              simpa using this
            · have st : Stp [] s { s with heap := h₀, toks := s.toks + bv.length } := .grow ?_ hk₀ (Nat.le_add_right _ _)
              · have inv : Inv K B { s with heap := h₀, toks := s.toks + bv.length } := Inv.on k ⟨X, lim, tok, base, tabsI, glob⟩ st
                have hA' : Room (A.deeper (callEnv fd s.heap.objs.size f)) n := by
                  obtain ⟨r1, r2, r3, r4, l, r5⟩ := hA
                  exact ⟨by show A.depth + 1 + 8 * n < _; omega, by show A.units + 3 + 16 * n < _; omega, r3, r4, _, by show A.frames.map _ = _; rw [r5]; rfl⟩
                have he : EnvOk (callEnv fd s.heap.objs.size f) s.heap.objs.size := ⟨hk, hgl, hbl, rfl⟩
                have kp : KeepFor O s.heap s.heap := fun _ _ e _ _ => e
                have hLs : s.heap.objs.size < h₀.objs.size := by
                  obtain ⟨o, _, _, e, _⟩ := hns
                  exact Heap.lt_size e
                have wid : ∀ {v d}, Rep O s.heap v d → Rep (s.heap.objs.size :: O) h₀ v d := fun r =>
                  (r.keep (O' := s.heap.objs.size :: O) kp fun b o hb e => (List.mem_cons.mp hb).elim (fun q => absurd (Heap.lt_size e) (by rw [q]; exact Nat.lt_irrefl _)) id).on st
                have sto : St K B (s.heap.objs.size :: O) [s.heap.objs.size] s.heap.objs.size ⟨b.reverse, .none⟩ s.heap.objs.size { s with heap := h₀, toks := s.toks + bv.length } := by
                  refine ⟨inv, ⟨⟨_, hns, fun x d e => ?_, trivial⟩, .head _, fun a ha => by rw [List.mem_singleton.mp ha]; exact ⟨.head _, Nat.le_refl _⟩⟩, base⟩
                  rcases hrep.rev.look x with ⟨_, z⟩ | ⟨v, d', z1, z2, r⟩
                  · rw [show (b.reverse.lookup x) = some d from e] at z; cases z
                  · have e' : b.reverse.lookup x = some d := e
                    rw [z2] at e'; cases e'
                    exact ⟨v, z1, wid r⟩
                have low : OLow (s.heap.objs.size :: O) { s with heap := h₀, toks := s.toks + bv.length } := fun a ha => (List.mem_cons.mp ha).elim (fun e => by rw [e]; exact hLs) fun e => Nat.lt_trans (hO a e) hLs
                have run : ∀ {fl ρ'}, exs ⟨fd.scope, globIn K, ops, ownv f, settable K, 40⟩ 60 ⟨b.reverse, .none⟩ body = some (fl, ρ') → ∀ (Q' : Flow → Shared → Prop) (E' : Value → Shared → Prop), (∀ flv s', Stp [] s s' → FlowIs O s'.heap flv fl → Q' flv s') →
                    wpAny (model prog w) (A.deeper (callEnv fd s.heap.objs.size f)) (execs body (callEnv fd s.heap.objs.size f)) Q' E' { s with heap := h₀, toks := s.toks + bv.length } := fun hx Q' E' q' =>
                  exs_ok (c := ⟨fd.scope, globIn K, ops, ownv f, settable K, 40⟩) k ok (fun _ _ e => e) (fun _ _ e => e) hA' he ⟨rfl, fun _ => hct⟩ (O₀ := O) (N := s.heap.objs.size) hO 60 _ _ _ _ hx _ _ _ sto low (fun a ha => .tail _ ha) Q' E' fun flv s' O' W' a fi =>
                    q' flv s' ((st.trans a.stp).cut fun u hu => .inr (by
                      rcases List.mem_append.mp hu with x | x
                      · cases x
                      · rw [List.mem_singleton.mp x]; exact Nat.le_refl _)) fi
                split at h
                · rename_i d' ρ' hx
                  cases h
                  exact run hx _ _ fun flv s' x fi => by
                    cases flv <;> first | exact fi.elim | exact q _ _ x fi
                · rename_i ρ' hx
                  cases h
                  exact run hx _ _ fun flv s' x fi => by
                    cases flv <;> first | exact fi.elim | exact q _ _ x .none
                · cases h
              · obtain ⟨o, _, _, e, _⟩ := hns
                exact Nat.le_of_lt (Heap.lt_size e)
          · cases h
        · cases h
      · cases h
    · cases h
  · cases h
include k ok hA in
theorem call_fn {ownv : Addr → Option Str} {f : Addr} {args : List D} {kws : List (Str × D)} {d : D} (h : runF K ownv (settable K) ops f args kws = some d) {O : List Addr} {s : Shared} (I : Inv K B s) (hO : OLow O s) {vs kv : List Value} (ra : RepL O s.heap vs args) (rk : RepL O s.heap kv (kws.map (·.2))) :
    Gives prog w O A (call (.ref f) vs ((kws.map (·.1)).zip kv)) s d := fun Q E q => wpAny_call (code_fn k ok hA h I hO ra rk Q E q)
end
end Mine
end
section
open PySem PySem.W PyProof.Rows
set_option maxRecDepth 100000
namespace Mine

noncomputable def mulFits (a b : Int) : Bool := !(decide (Builtin.Int.intBits a > shortFactorBits) && decide (Builtin.Int.intBits b > shortFactorBits) && Builtin.Int.intTooBig (Builtin.Int.intBits a + Builtin.Int.intBits b))
/-- sums and the like of plain data -/
noncomputable def binD : Operator → D → D → Option D
  | .Add, .int a, .int b => some (.int (a + b))
  | .Sub, .int a, .int b => some (.int (a - b))
  | .Mult, .int a, .int b => if mulFits a b then some (.int (a * b)) else none
  | .FloorDiv, .int a, .int b => if (b == 0) = false ∧ Builtin.divisionGoesByPylong a b = false then some (.int (a.fdiv b)) else none
  | .Mod, .int a, .int b => if (b == 0) = false then some (.int (a.fmod b)) else none
  | .Pow, .int a, .int n => if 0 ≤ n ∧ n ≤ 1000 ∧ a.natAbs < 2 ^ 64 then some (.int (a ^ n.toNat)) else none
  | .BitXor, .bool p, .bool q => some (.bool (p != q))
  | .Add, .str x, .str y => if x.length + y.length ≤ sizeLine then some (.str (x ++ y)) else none
  | .Add, .list a, .list b => if a.length + b.length ≤ 1000 then some (.list (a ++ b)) else none
  | .Add, .tup a, .tup b => if a.length + b.length ≤ 1000 then some (.tup (a ++ b)) else none
  | _, _, _ => none

section
variable {prog : Program} {w : World} {A : Around} {O : List Addr} {s : Shared}
theorem gives_int {v : Value} {i : Int} {t : Tok} {s' : Shared} (x : Stp [] s s') (Q : Value → Shared → Prop) (q : ∀ v s', Stp [] s s' → Rep O s'.heap v (.int i) → Q v s') : Q (.int i t) s' := q _ _ x (.int _ _)

theorem tup_add {va vb : Value} {a b : List D} (hO : OLow O s) (ra : Rep O s.heap va (.tup a)) (rb : Rep O s.heap vb (.tup b)) (hz : a.length + b.length ≤ 1000) : Gives prog w O A (binaryOp .Add va vb) s (.tup (a ++ b)) := by
  intro Q E q
  obtain ⟨t, vs, rfl, hn, ht, rs⟩ := id ra.tup_inv
  obtain ⟨t2, ws, rfl, hn2, ht2, rs2⟩ := id rb.tup_inv
  obtain ⟨⟨cls, dd, data, sl⟩, ho, hc, n, hd⟩ := id ht
  obtain ⟨⟨cls2, dd2, data2, sl2⟩, ho2, hc2, n2, hd2⟩ := id ht2
  simp only at hc hd hc2 hd2
  subst hc hd hc2 hd2
  have e : vs.toArray ++ ws.toArray = (vs ++ ws).toArray := by simp
  have hsz : vs.length + ws.length ≤ sizeLine := by rw [rs.length, rs2.length]; exact Nat.le_trans hz (by decide)
  by_cases hv : vs = []
  · subst hv
    cases rs
    exact concat_meets ⟨_, ho, rfl⟩ ⟨_, ho2, rfl⟩ noFill_tuple_add seq_tuple_add PySem.F.slot_tuple_add PySem.F.entry_tuple_add (PySem.F.args_tuple_add_2 _ _)
      (tuple_addW0 t t2 _ ws.toArray n n2 dd dd2 sl sl2 (by simp)) ⟨ho, ho2, q _ _ (.refl _ _) rb⟩
  · by_cases hw : ws = []
    · subst hw
      cases rs2
      exact concat_meets ⟨_, ho, rfl⟩ ⟨_, ho2, rfl⟩ noFill_tuple_add seq_tuple_add PySem.F.slot_tuple_add PySem.F.entry_tuple_add (PySem.F.args_tuple_add_2 _ _)
        (tuple_addW1 t t2 vs.toArray _ n n2 dd dd2 sl sl2 (by simpa using hv) (by simp)) ⟨ho, ho2, q _ _ (.refl _ _) (by rw [List.append_nil]; exact ra)⟩
    · refine concat_meets ⟨_, ho, rfl⟩ ⟨_, ho2, rfl⟩ noFill_tuple_add seq_tuple_add PySem.F.slot_tuple_add PySem.F.entry_tuple_add (PySem.F.args_tuple_add_2 _ _)
        (tuple_addW2 t t2 vs.toArray ws.toArray n n2 dd dd2 sl sl2 (by simpa using hv) (by simpa using hw) (by rw [List.size_toArray, List.size_toArray]; exact hsz)) ⟨ho, ho2, ?_⟩
      rw [e]
      exact q _ _ (.push ..) (.tup (o := { cls := .type "tuple", data := .seq (vs ++ ws).toArray }) (fun hm => absurd (hO _ hm) (Nat.lt_irrefl _)) (Heap.get?_push_size _ rfl) rfl rfl ((rs2.append rs).on (.push s _)))

theorem binD_ok {op : Operator} {a b d : D} (h : binD op a b = some d) {va vb : Value} (hO : OLow O s) (ra : Rep O s.heap va a) (rb : Rep O s.heap vb b) : Gives prog w O A (binaryOp op va vb) s d := by
  unfold binD at h
  split at h
  · cases h; (first | obtain rfl := ra.inv | obtain ⟨_, rfl⟩ := ra.inv | obtain ⟨_, rfl, _⟩ := ra.inv); (first | obtain rfl := rb.inv | obtain ⟨_, rfl⟩ := rb.inv | obtain ⟨_, rfl, _⟩ := rb.inv); exact fun Q E q => add_int (q _ _ (.fresh s 1) (.int _ _))
  · cases h; (first | obtain rfl := ra.inv | obtain ⟨_, rfl⟩ := ra.inv | obtain ⟨_, rfl, _⟩ := ra.inv); (first | obtain rfl := rb.inv | obtain ⟨_, rfl⟩ := rb.inv | obtain ⟨_, rfl, _⟩ := rb.inv); exact fun Q E q => sub_int (q _ _ (.fresh s 1) (.int _ _))
  · split at h
    · rename_i hm
      cases h; (first | obtain rfl := ra.inv | obtain ⟨_, rfl⟩ := ra.inv | obtain ⟨_, rfl, _⟩ := ra.inv); (first | obtain rfl := rb.inv | obtain ⟨_, rfl⟩ := rb.inv | obtain ⟨_, rfl, _⟩ := rb.inv)
      exact fun Q E q => mul_int (q _ _ (.fresh s 1) (.int _ _)) (fun hc => by
        unfold mulFits at hm
        rw [hc] at hm
        cases hm)
    · cases h
  · split at h
    · rename_i hm
      cases h; (first | obtain rfl := ra.inv | obtain ⟨_, rfl⟩ := ra.inv | obtain ⟨_, rfl, _⟩ := ra.inv); (first | obtain rfl := rb.inv | obtain ⟨_, rfl⟩ := rb.inv | obtain ⟨_, rfl, _⟩ := rb.inv)
      exact fun Q E q => AutoIntOps.floordiv_1 (by rw [hm.1]; exact Bool.false_ne_true) (by rw [hm.2]; exact Bool.false_ne_true) (q _ _ (.fresh s 1) (.int _ _))
    · cases h
  · split at h
    · rename_i hm
      cases h; (first | obtain rfl := ra.inv | obtain ⟨_, rfl⟩ := ra.inv | obtain ⟨_, rfl, _⟩ := ra.inv); (first | obtain rfl := rb.inv | obtain ⟨_, rfl⟩ := rb.inv | obtain ⟨_, rfl, _⟩ := rb.inv)
      exact fun Q E q => AutoIntOps.mod_1 (by rw [hm]; exact Bool.false_ne_true) (q _ _ (.fresh s 1) (.int _ _))
    · cases h
  · split at h
    · rename_i hm
      cases h; (first | obtain rfl := ra.inv | obtain ⟨_, rfl⟩ := ra.inv | obtain ⟨_, rfl, _⟩ := ra.inv); (first | obtain rfl := rb.inv | obtain ⟨_, rfl⟩ := rb.inv | obtain ⟨_, rfl, _⟩ := rb.inv)
      exact fun Q E q => pow_int_small hm.1 (by omega) hm.2.2 (q _ _ (.fresh s 1) (.int _ _))
    · cases h
  · cases h; (first | obtain rfl := ra.inv | obtain ⟨_, rfl⟩ := ra.inv | obtain ⟨_, rfl, _⟩ := ra.inv); (first | obtain rfl := rb.inv | obtain ⟨_, rfl⟩ := rb.inv | obtain ⟨_, rfl, _⟩ := rb.inv); exact fun Q E q => xor_bool (q _ _ (.refl _ _) (.bool _))
  · split at h
    · rename_i hm
      cases h; (first | obtain rfl := ra.inv | obtain ⟨_, rfl⟩ := ra.inv | obtain ⟨_, rfl, _⟩ := ra.inv); (first | obtain rfl := rb.inv | obtain ⟨_, rfl⟩ := rb.inv | obtain ⟨_, rfl, _⟩ := rb.inv)
      exact fun Q E q => wpAny_up (SBL.add (fun t' k z u => q _ _ (.toks u.2) (.str _ _ (Nat.le_trans z.2 hm))) hm)
    · cases h
  · split at h
    · rename_i hm
      cases h
      intro Q E q
      refine list_add ra rb hm fun vs rs => q _ _ (.push ..) (.list (o := listOf vs.toArray 0) (fun hm => absurd (hO _ hm) (Nat.lt_irrefl _)) (Heap.get?_push_size _ rfl) rfl rfl (rs.on (.push s _)))
    · cases h
  · split at h
    · rename_i hm
      cases h
      exact tup_add hO ra rb hm
    · cases h
  · cases h
end
end Mine
end
section
open PySem PySem.W PyProof.Rows
open AutoSeq1 (wpAny_loadPart')
open MeetsSeq MeetsSeq2 MeetsSeq3 SeqRoads2
set_option maxRecDepth 100000
namespace Mine

section
variable (prog : Program) (w : World) (A : Around)
noncomputable def TupEnd (op : CmpOp) (x y : Value) (Q E : Value → Shared → Prop) (s : Shared) : Prop := match op with
  | .Eq => Q (.bool false) s
  | .NotEq => Q (.bool true) s
  | op => wpAny (model prog w) A (richCompare op x y) Q E s
/-- a comparison of two rows, pair for pair -/
noncomputable def TupRun (op : CmpOp) (m n : Nat) (Q E : Value → Shared → Prop) : List (Value × Value) → Shared → Prop
  | [], s => Q (Builtin.Tuple.tupleCompareSizes op m n) s
  | (x, y) :: r, s => wpAny (model prog w) A (eqBool x y) (fun t s' => if t then TupRun op m n Q E r s' else TupEnd prog w A op x y Q E s') E s
end
theorem tuple_eq_run (prog : Program) (w : World) (l b : Addr) (items items2 : Array Value) (n n2 : Nat) (dd dd2 : Option Addr) (sl sl2 : Array (Option Value)) :
    MeetsIn prog w (Builtin.«tuple.__eq__» ⟨[.ref l, .ref b], []⟩)
      (fun A R s => s.heap.get? l = some { cls := .type "tuple", dict := dd, data := .seq items n, slots := sl } ∧ s.heap.get? b = some { cls := .type "tuple", dict := dd2, data := .seq items2 n2, slots := sl2 } ∧
        TupRun prog w A.in1 .Eq items.size items2.size (fun v s' => R (.ok (.ret v)) s') (fun e s' => R (.error e) s') (items.toList.zip items2.toList) s) :=
  .of_wp fun A R s h => by
    obtain ⟨hp, g, d, tk, os⟩ := s; obtain ⟨hl, hb, h⟩ := h
    have f2 := AutoSeq1.sub_tuple_tuple
    wp_walk using wpAny_loadPart' hl, wpAny_loadPart' hb, wpAny_forIn_list _ (fun rest b s' => b.1 = none ∧ TupRun prog w A.in1 .Eq items.size items2.size (fun v s' => R (.ok (.ret v)) s') (fun e s' => R (.error e) s') rest s') _
    case turn =>
      rintro ⟨y, x⟩ rest b s' ⟨hb', hT⟩
      refine wpAny_bind (wpAny_mono hT (fun t s₁ h₁ => ?_) fun _ _ e => e)
      cases t with
      | true =>
        wp_walk
        exact ⟨rfl, h₁⟩
      | false =>
        wp_walk
        exact ⟨_, rfl, h₁⟩
    case fin =>
      rintro ⟨b1, b2⟩ s' ⟨hb, hR⟩
      simp only at hb
      subst hb
      wp_walk
      exact ⟨_, rfl, hR⟩
    case h =>
      exact ⟨rfl, h⟩
theorem tuple_ne_run (prog : Program) (w : World) (l b : Addr) (items items2 : Array Value) (n n2 : Nat) (dd dd2 : Option Addr) (sl sl2 : Array (Option Value)) :
    MeetsIn prog w (Builtin.«tuple.__ne__» ⟨[.ref l, .ref b], []⟩)
      (fun A R s => s.heap.get? l = some { cls := .type "tuple", dict := dd, data := .seq items n, slots := sl } ∧ s.heap.get? b = some { cls := .type "tuple", dict := dd2, data := .seq items2 n2, slots := sl2 } ∧
        TupRun prog w A.in1 .NotEq items.size items2.size (fun v s' => R (.ok (.ret v)) s') (fun e s' => R (.error e) s') (items.toList.zip items2.toList) s) :=
  .of_wp fun A R s h => by
    obtain ⟨hp, g, d, tk, os⟩ := s; obtain ⟨hl, hb, h⟩ := h
    have f2 := AutoSeq1.sub_tuple_tuple
    wp_walk using wpAny_loadPart' hl, wpAny_loadPart' hb, wpAny_forIn_list _ (fun rest b s' => b.1 = none ∧ TupRun prog w A.in1 .NotEq items.size items2.size (fun v s' => R (.ok (.ret v)) s') (fun e s' => R (.error e) s') rest s') _
    case turn =>
      rintro ⟨y, x⟩ rest b s' ⟨hb', hT⟩
      refine wpAny_bind (wpAny_mono hT (fun t s₁ h₁ => ?_) fun _ _ e => e)
      cases t with
      | true =>
        wp_walk
        exact ⟨rfl, h₁⟩
      | false =>
        wp_walk
        exact ⟨_, rfl, h₁⟩
    case fin =>
      rintro ⟨b1, b2⟩ s' ⟨hb, hR⟩
      simp only at hb
      subst hb
      wp_walk
      exact ⟨_, rfl, hR⟩
    case h =>
      exact ⟨rfl, h⟩
theorem tuple_lt_run (prog : Program) (w : World) (l b : Addr) (items items2 : Array Value) (n n2 : Nat) (dd dd2 : Option Addr) (sl sl2 : Array (Option Value)) :
    MeetsIn prog w (Builtin.«tuple.__lt__» ⟨[.ref l, .ref b], []⟩)
      (fun A R s => s.heap.get? l = some { cls := .type "tuple", dict := dd, data := .seq items n, slots := sl } ∧ s.heap.get? b = some { cls := .type "tuple", dict := dd2, data := .seq items2 n2, slots := sl2 } ∧
        TupRun prog w A.in1 .Lt items.size items2.size (fun v s' => R (.ok (.ret v)) s') (fun e s' => R (.error e) s') (items.toList.zip items2.toList) s) :=
  .of_wp fun A R s h => by
    obtain ⟨hp, g, d, tk, os⟩ := s; obtain ⟨hl, hb, h⟩ := h
    have f2 := AutoSeq1.sub_tuple_tuple
    wp_walk using wpAny_loadPart' hl, wpAny_loadPart' hb, wpAny_forIn_list _ (fun rest b s' => b.1 = none ∧ TupRun prog w A.in1 .Lt items.size items2.size (fun v s' => R (.ok (.ret v)) s') (fun e s' => R (.error e) s') rest s') _
    case turn =>
      rintro ⟨y, x⟩ rest b s' ⟨hb', hT⟩
      refine wpAny_bind (wpAny_mono hT (fun t s₁ h₁ => ?_) fun _ _ e => e)
      cases t with
      | true =>
        wp_walk
        exact ⟨rfl, h₁⟩
      | false =>
        show wpAny (model prog w) A.in1 (do rule "tuple.compare.by-the-first-pair-that-differs"; let r ← richCompare .Lt y x; let f ← ret r; pure (ForInStep.done (some f, ()))) _ _ _
        refine wpAny_bind (wpAny_rule (wpAny_bind (wpAny_mono h₁ (fun v s₂ hv => ?_) fun _ _ e => e)))
        wp_walk
        exact ⟨_, rfl, hv⟩
    case fin =>
      rintro ⟨b1, b2⟩ s' ⟨hb, hR⟩
      simp only at hb
      subst hb
      wp_walk
      exact ⟨_, rfl, hR⟩
    case h =>
      exact ⟨rfl, h⟩
theorem tuple_le_run (prog : Program) (w : World) (l b : Addr) (items items2 : Array Value) (n n2 : Nat) (dd dd2 : Option Addr) (sl sl2 : Array (Option Value)) :
    MeetsIn prog w (Builtin.«tuple.__le__» ⟨[.ref l, .ref b], []⟩)
      (fun A R s => s.heap.get? l = some { cls := .type "tuple", dict := dd, data := .seq items n, slots := sl } ∧ s.heap.get? b = some { cls := .type "tuple", dict := dd2, data := .seq items2 n2, slots := sl2 } ∧
        TupRun prog w A.in1 .LtE items.size items2.size (fun v s' => R (.ok (.ret v)) s') (fun e s' => R (.error e) s') (items.toList.zip items2.toList) s) :=
  .of_wp fun A R s h => by
    obtain ⟨hp, g, d, tk, os⟩ := s; obtain ⟨hl, hb, h⟩ := h
    have f2 := AutoSeq1.sub_tuple_tuple
    wp_walk using wpAny_loadPart' hl, wpAny_loadPart' hb, wpAny_forIn_list _ (fun rest b s' => b.1 = none ∧ TupRun prog w A.in1 .LtE items.size items2.size (fun v s' => R (.ok (.ret v)) s') (fun e s' => R (.error e) s') rest s') _
    case turn =>
      rintro ⟨y, x⟩ rest b s' ⟨hb', hT⟩
      refine wpAny_bind (wpAny_mono hT (fun t s₁ h₁ => ?_) fun _ _ e => e)
      cases t with
      | true =>
        wp_walk
        exact ⟨rfl, h₁⟩
      | false =>
        show wpAny (model prog w) A.in1 (do rule "tuple.compare.by-the-first-pair-that-differs"; let r ← richCompare .LtE y x; let f ← ret r; pure (ForInStep.done (some f, ()))) _ _ _
        refine wpAny_bind (wpAny_rule (wpAny_bind (wpAny_mono h₁ (fun v s₂ hv => ?_) fun _ _ e => e)))
        wp_walk
        exact ⟨_, rfl, hv⟩
    case fin =>
      rintro ⟨b1, b2⟩ s' ⟨hb, hR⟩
      simp only at hb
      subst hb
      wp_walk
      exact ⟨_, rfl, hR⟩
    case h =>
      exact ⟨rfl, h⟩
theorem tuple_gt_run (prog : Program) (w : World) (l b : Addr) (items items2 : Array Value) (n n2 : Nat) (dd dd2 : Option Addr) (sl sl2 : Array (Option Value)) :
    MeetsIn prog w (Builtin.«tuple.__gt__» ⟨[.ref l, .ref b], []⟩)
      (fun A R s => s.heap.get? l = some { cls := .type "tuple", dict := dd, data := .seq items n, slots := sl } ∧ s.heap.get? b = some { cls := .type "tuple", dict := dd2, data := .seq items2 n2, slots := sl2 } ∧
        TupRun prog w A.in1 .Gt items.size items2.size (fun v s' => R (.ok (.ret v)) s') (fun e s' => R (.error e) s') (items.toList.zip items2.toList) s) :=
  .of_wp fun A R s h => by
    obtain ⟨hp, g, d, tk, os⟩ := s; obtain ⟨hl, hb, h⟩ := h
    have f2 := AutoSeq1.sub_tuple_tuple
    wp_walk using wpAny_loadPart' hl, wpAny_loadPart' hb, wpAny_forIn_list _ (fun rest b s' => b.1 = none ∧ TupRun prog w A.in1 .Gt items.size items2.size (fun v s' => R (.ok (.ret v)) s') (fun e s' => R (.error e) s') rest s') _
    case turn =>
      rintro ⟨y, x⟩ rest b s' ⟨hb', hT⟩
      refine wpAny_bind (wpAny_mono hT (fun t s₁ h₁ => ?_) fun _ _ e => e)
      cases t with
      | true =>
        wp_walk
        exact ⟨rfl, h₁⟩
      | false =>
        show wpAny (model prog w) A.in1 (do rule "tuple.compare.by-the-first-pair-that-differs"; let r ← richCompare .Gt y x; let f ← ret r; pure (ForInStep.done (some f, ()))) _ _ _
        refine wpAny_bind (wpAny_rule (wpAny_bind (wpAny_mono h₁ (fun v s₂ hv => ?_) fun _ _ e => e)))
        wp_walk
        exact ⟨_, rfl, hv⟩
    case fin =>
      rintro ⟨b1, b2⟩ s' ⟨hb, hR⟩
      simp only at hb
      subst hb
      wp_walk
      exact ⟨_, rfl, hR⟩
    case h =>
      exact ⟨rfl, h⟩
theorem tuple_ge_run (prog : Program) (w : World) (l b : Addr) (items items2 : Array Value) (n n2 : Nat) (dd dd2 : Option Addr) (sl sl2 : Array (Option Value)) :
    MeetsIn prog w (Builtin.«tuple.__ge__» ⟨[.ref l, .ref b], []⟩)
      (fun A R s => s.heap.get? l = some { cls := .type "tuple", dict := dd, data := .seq items n, slots := sl } ∧ s.heap.get? b = some { cls := .type "tuple", dict := dd2, data := .seq items2 n2, slots := sl2 } ∧
        TupRun prog w A.in1 .GtE items.size items2.size (fun v s' => R (.ok (.ret v)) s') (fun e s' => R (.error e) s') (items.toList.zip items2.toList) s) :=
  .of_wp fun A R s h => by
    obtain ⟨hp, g, d, tk, os⟩ := s; obtain ⟨hl, hb, h⟩ := h
    have f2 := AutoSeq1.sub_tuple_tuple
    wp_walk using wpAny_loadPart' hl, wpAny_loadPart' hb, wpAny_forIn_list _ (fun rest b s' => b.1 = none ∧ TupRun prog w A.in1 .GtE items.size items2.size (fun v s' => R (.ok (.ret v)) s') (fun e s' => R (.error e) s') rest s') _
    case turn =>
      rintro ⟨y, x⟩ rest b s' ⟨hb', hT⟩
      refine wpAny_bind (wpAny_mono hT (fun t s₁ h₁ => ?_) fun _ _ e => e)
      cases t with
      | true =>
        wp_walk
        exact ⟨rfl, h₁⟩
      | false =>
        show wpAny (model prog w) A.in1 (do rule "tuple.compare.by-the-first-pair-that-differs"; let r ← richCompare .GtE y x; let f ← ret r; pure (ForInStep.done (some f, ()))) _ _ _
        refine wpAny_bind (wpAny_rule (wpAny_bind (wpAny_mono h₁ (fun v s₂ hv => ?_) fun _ _ e => e)))
        wp_walk
        exact ⟨_, rfl, hv⟩
    case fin =>
      rintro ⟨b1, b2⟩ s' ⟨hb, hR⟩
      simp only at hb
      subst hb
      wp_walk
      exact ⟨_, rfl, hR⟩
    case h =>
      exact ⟨rfl, h⟩
end Mine
end
section
open PySem PySem.W PyProof.Rows
open AutoSeq1 (wpAny_loadPart')
open MeetsSeq MeetsSeq2 MeetsSeq3 SeqRoads2
set_option maxRecDepth 100000
namespace Mine

/-- a comparison of two lists, pair for pair; P stands at every step -/
noncomputable def LstRun (prog : Program) (w : World) (A : Around) (P : Shared → Prop) (op : CmpOp) (m n : Nat) (Q E : Value → Shared → Prop) : List (Value × Value) → Shared → Prop
  | [], s => Q (Builtin.Tuple.tupleCompareSizes op m n) s
  | (x, y) :: r, s => wpAny (model prog w) A (eqBool x y) (fun t s' => P s' ∧ if t then LstRun prog w A P op m n Q E r s' else TupEnd prog w A op x y Q E s') E s

theorem list_lt_loop (prog : Program) (w : World) (l b : Addr) (items items2 : Array Value) (n n2 : Nat) (dd dd2 : Option Addr) (sl sl2 : Array (Option Value)) (k : Nat) :
    ∀ i : Nat, (items.toList.zip items2.toList).length - i = k → MeetsIn prog w (Builtin.«list.__eq__.loop» ⟨[.ref l, .ref b, rawInt i, rawInt 0], []⟩)
      (fun A R s => s.heap.get? l = some { cls := .type "list", dict := dd, data := .seq items n, slots := sl } ∧ s.heap.get? b = some { cls := .type "list", dict := dd2, data := .seq items2 n2, slots := sl2 } ∧
        LstRun prog w A.in1 (fun s => s.heap.get? l = some { cls := .type "list", dict := dd, data := .seq items n, slots := sl } ∧ s.heap.get? b = some { cls := .type "list", dict := dd2, data := .seq items2 n2, slots := sl2 }) .Lt items.size items2.size (fun v s' => R (.ok (.ret v)) s') (fun e s' => R (.error e) s') ((items.toList.zip items2.toList).drop i) s) := by
  have hZ : (items.toList.zip items2.toList).length = min items.size items2.size := by simp
  induction k with
  | zero =>
    intro i hk A R s h
    obtain ⟨hp, g, d, tk, os⟩ := s; obtain ⟨hl, hb, h⟩ := h
    have hd : (items.toList.zip items2.toList).drop i = [] := List.drop_of_length_le (by omega)
    rw [hd] at h
    wp_walk using wpAny_loadPart' hl, wpAny_loadPart' hb
    have hi : items[((i : Nat) : Int).toNat]? = none ∨ items2[((i : Nat) : Int).toNat]? = none := by
      rw [hZ] at hk
      simp only [Int.toNat_natCast, Array.getElem?_eq_none_iff]
      omega
    split
    · rename_i x y h1
      rw [Prod.mk.injEq] at h1
      rcases hi with hi | hi
      · rw [hi] at h1; cases h1.1
      · rw [hi] at h1; cases h1.2
    · wp_walk using wpAny_loadPart' hl, wpAny_loadPart' hb
      exact h
  | succ k ih =>
    intro i hk A R s h
    obtain ⟨hp, g, d, tk, os⟩ := s; obtain ⟨hl, hb, h⟩ := h
    have hlt0 : i < (items.toList.zip items2.toList).length := by omega
    have hlt : i < items.size := by rw [hZ] at hlt0; omega
    have hlt2 : i < items2.size := by rw [hZ] at hlt0; omega
    have hd : (items.toList.zip items2.toList).drop i = (items[i], items2[i]) :: (items.toList.zip items2.toList).drop (i + 1) := by
      rw [List.drop_eq_getElem_cons hlt0]
      simp
    rw [hd] at h
    wp_walk using wpAny_loadPart' hl, wpAny_loadPart' hb
    have hi1 : items[((i : Nat) : Int).toNat]? = some items[i] := by simp [hlt]
    have hi2 : items2[((i : Nat) : Int).toNat]? = some items2[i] := by simp [hlt2]
    have hc : ((i : Int) + 1) = ((i + 1 : Nat) : Int) := by push_cast; rfl
    rw [hi1, hi2]
    refine wpAny_bind (wpAny_mono h (fun t s₁ h₁ => ?_) fun _ _ e => e)
    obtain ⟨⟨hl₁, hb₁⟩, h₁⟩ := h₁
    obtain ⟨hp₁, g₁, d₁, tk₁, os₁⟩ := s₁
    cases t with
    | true =>
      wp_walk
      rw [hc]
      exact ⟨plainId_quiet plain_eq_loop _, codeAny_builtin entry_eq_loop (by
        rw [Around.under_plainId plain_eq_loop _]
        exact ih (i + 1) (by omega) A R _ ⟨hl₁, hb₁, h₁⟩)⟩
    | false =>
      refine (show wpAny (model prog w) A.in1 (do
        let xs ← Builtin.List.listItems (.ref l)
        let ys ← Builtin.List.listItems (.ref b)
        match xs[((i : Nat) : Int).toNat]?, ys[((i : Nat) : Int).toNat]?, CmpOp.Lt with
          | some _, some _, .Eq => ret (.bool false)
          | some _, some _, .NotEq => ret (.bool true)
          | some x, some y, _ => do let r ← richCompare .Lt x y; ret r
          | _, _, _ => do rule "list.compare.shrunk"; ret (Builtin.Tuple.tupleCompareSizes .Lt xs.size ys.size)) _ _ _ from ?_)
      unfold Builtin.List.listItems
      wp_walk using wpAny_loadPart' hl₁, wpAny_loadPart' hb₁
      rw [hi1, hi2]
      refine wpAny_bind (wpAny_mono h₁ (fun v s₂ hv => ?_) fun _ _ e => e)
      wp_walk
      exact hv
theorem list_lt_run (prog : Program) (w : World) (l b : Addr) (items items2 : Array Value) (n n2 : Nat) (dd dd2 : Option Addr) (sl sl2 : Array (Option Value)) :
    MeetsIn prog w (Builtin.«list.__lt__» ⟨[.ref l, .ref b], []⟩)
      (fun A R s => s.heap.get? l = some { cls := .type "list", dict := dd, data := .seq items n, slots := sl } ∧ s.heap.get? b = some { cls := .type "list", dict := dd2, data := .seq items2 n2, slots := sl2 } ∧
        LstRun prog w A.in1 (fun s => s.heap.get? l = some { cls := .type "list", dict := dd, data := .seq items n, slots := sl } ∧ s.heap.get? b = some { cls := .type "list", dict := dd2, data := .seq items2 n2, slots := sl2 }) .Lt items.size items2.size (fun v s' => R (.ok (.ret v)) s') (fun e s' => R (.error e) s') (items.toList.zip items2.toList) s) := by
  intro A R s h
  obtain ⟨hp, g, d, tk, os⟩ := s; obtain ⟨hl, hb, h⟩ := h
  have f3 := AutoSeq1.sub_list_list
  wp_walk using wpAny_loadPart' hl, wpAny_loadPart' hb
  exact ⟨plainId_quiet plain_eq_loop _, codeAny_builtin entry_eq_loop (by
    rw [Around.under_plainId plain_eq_loop _]
    exact list_lt_loop prog w l b items items2 n n2 dd dd2 sl sl2 _ 0 rfl A R _ ⟨hl, hb, h⟩)⟩
theorem list_gt_loop (prog : Program) (w : World) (l b : Addr) (items items2 : Array Value) (n n2 : Nat) (dd dd2 : Option Addr) (sl sl2 : Array (Option Value)) (k : Nat) :
    ∀ i : Nat, (items.toList.zip items2.toList).length - i = k → MeetsIn prog w (Builtin.«list.__eq__.loop» ⟨[.ref l, .ref b, rawInt i, rawInt 4], []⟩)
      (fun A R s => s.heap.get? l = some { cls := .type "list", dict := dd, data := .seq items n, slots := sl } ∧ s.heap.get? b = some { cls := .type "list", dict := dd2, data := .seq items2 n2, slots := sl2 } ∧
        LstRun prog w A.in1 (fun s => s.heap.get? l = some { cls := .type "list", dict := dd, data := .seq items n, slots := sl } ∧ s.heap.get? b = some { cls := .type "list", dict := dd2, data := .seq items2 n2, slots := sl2 }) .Gt items.size items2.size (fun v s' => R (.ok (.ret v)) s') (fun e s' => R (.error e) s') ((items.toList.zip items2.toList).drop i) s) := by
  have hZ : (items.toList.zip items2.toList).length = min items.size items2.size := by simp
  induction k with
  | zero =>
    intro i hk A R s h
    obtain ⟨hp, g, d, tk, os⟩ := s; obtain ⟨hl, hb, h⟩ := h
    have hd : (items.toList.zip items2.toList).drop i = [] := List.drop_of_length_le (by omega)
    rw [hd] at h
    wp_walk using wpAny_loadPart' hl, wpAny_loadPart' hb
    have hi : items[((i : Nat) : Int).toNat]? = none ∨ items2[((i : Nat) : Int).toNat]? = none := by
      rw [hZ] at hk
      simp only [Int.toNat_natCast, Array.getElem?_eq_none_iff]
      omega
    split
    · rename_i x y h1
      rw [Prod.mk.injEq] at h1
      rcases hi with hi | hi
      · rw [hi] at h1; cases h1.1
      · rw [hi] at h1; cases h1.2
    · wp_walk using wpAny_loadPart' hl, wpAny_loadPart' hb
      exact h
  | succ k ih =>
    intro i hk A R s h
    obtain ⟨hp, g, d, tk, os⟩ := s; obtain ⟨hl, hb, h⟩ := h
    have hlt0 : i < (items.toList.zip items2.toList).length := by omega
    have hlt : i < items.size := by rw [hZ] at hlt0; omega
    have hlt2 : i < items2.size := by rw [hZ] at hlt0; omega
    have hd : (items.toList.zip items2.toList).drop i = (items[i], items2[i]) :: (items.toList.zip items2.toList).drop (i + 1) := by
      rw [List.drop_eq_getElem_cons hlt0]
      simp
    rw [hd] at h
    wp_walk using wpAny_loadPart' hl, wpAny_loadPart' hb
    have hi1 : items[((i : Nat) : Int).toNat]? = some items[i] := by simp [hlt]
    have hi2 : items2[((i : Nat) : Int).toNat]? = some items2[i] := by simp [hlt2]
    have hc : ((i : Int) + 1) = ((i + 1 : Nat) : Int) := by push_cast; rfl
    rw [hi1, hi2]
    refine wpAny_bind (wpAny_mono h (fun t s₁ h₁ => ?_) fun _ _ e => e)
    obtain ⟨⟨hl₁, hb₁⟩, h₁⟩ := h₁
    obtain ⟨hp₁, g₁, d₁, tk₁, os₁⟩ := s₁
    cases t with
    | true =>
      wp_walk
      rw [hc]
      exact ⟨plainId_quiet plain_eq_loop _, codeAny_builtin entry_eq_loop (by
        rw [Around.under_plainId plain_eq_loop _]
        exact ih (i + 1) (by omega) A R _ ⟨hl₁, hb₁, h₁⟩)⟩
    | false =>
      refine (show wpAny (model prog w) A.in1 (do
        let xs ← Builtin.List.listItems (.ref l)
        let ys ← Builtin.List.listItems (.ref b)
        match xs[((i : Nat) : Int).toNat]?, ys[((i : Nat) : Int).toNat]?, CmpOp.Gt with
          | some _, some _, .Eq => ret (.bool false)
          | some _, some _, .NotEq => ret (.bool true)
          | some x, some y, _ => do let r ← richCompare .Gt x y; ret r
          | _, _, _ => do rule "list.compare.shrunk"; ret (Builtin.Tuple.tupleCompareSizes .Gt xs.size ys.size)) _ _ _ from ?_)
      unfold Builtin.List.listItems
      wp_walk using wpAny_loadPart' hl₁, wpAny_loadPart' hb₁
      rw [hi1, hi2]
      refine wpAny_bind (wpAny_mono h₁ (fun v s₂ hv => ?_) fun _ _ e => e)
      wp_walk
      exact hv
theorem list_gt_run (prog : Program) (w : World) (l b : Addr) (items items2 : Array Value) (n n2 : Nat) (dd dd2 : Option Addr) (sl sl2 : Array (Option Value)) :
    MeetsIn prog w (Builtin.«list.__gt__» ⟨[.ref l, .ref b], []⟩)
      (fun A R s => s.heap.get? l = some { cls := .type "list", dict := dd, data := .seq items n, slots := sl } ∧ s.heap.get? b = some { cls := .type "list", dict := dd2, data := .seq items2 n2, slots := sl2 } ∧
        LstRun prog w A.in1 (fun s => s.heap.get? l = some { cls := .type "list", dict := dd, data := .seq items n, slots := sl } ∧ s.heap.get? b = some { cls := .type "list", dict := dd2, data := .seq items2 n2, slots := sl2 }) .Gt items.size items2.size (fun v s' => R (.ok (.ret v)) s') (fun e s' => R (.error e) s') (items.toList.zip items2.toList) s) := by
  intro A R s h
  obtain ⟨hp, g, d, tk, os⟩ := s; obtain ⟨hl, hb, h⟩ := h
  have f3 := AutoSeq1.sub_list_list
  wp_walk using wpAny_loadPart' hl, wpAny_loadPart' hb
  exact ⟨plainId_quiet plain_eq_loop _, codeAny_builtin entry_eq_loop (by
    rw [Around.under_plainId plain_eq_loop _]
    exact list_gt_loop prog w l b items items2 n n2 dd dd2 sl sl2 _ 0 rfl A R _ ⟨hl, hb, h⟩)⟩
end Mine
end
section
open PySem PySem.W PyProof.Rows
set_option maxRecDepth 100000
namespace Mine

/-- room, with f more units to spend -/
noncomputable def Rooms (A : Around) (n f : Nat) : Prop := Room { A with units := A.units + f } n
theorem Rooms.here {A : Around} {n f : Nat} (r : Rooms A n f) : Room A n := ⟨r.depth, by have := r.units; show A.units + _ < _; have e : ({ A with units := A.units + f } : Around).units = A.units + f := rfl; rw [e] at this; omega, r.handled, r.guards, r.frames⟩
theorem Rooms.in1 {A : Around} {n f : Nat} (r : Rooms A n (f + 1)) : Rooms A.in1 n f := ⟨r.depth, by have := r.units; have e : ({ A with units := A.units + (f + 1) } : Around).units = A.units + (f + 1) := rfl; rw [e] at this; show A.units + 1 + f + _ < _; omega, r.handled, r.guards, r.frames⟩
theorem Rooms.less {A : Around} {n f g : Nat} (r : Rooms A n f) (h : g ≤ f) : Rooms A n g := ⟨r.depth, by have := r.units; have e : ({ A with units := A.units + f } : Around).units = A.units + f := rfl; rw [e] at this; show A.units + g + _ < _; omega, r.handled, r.guards, r.frames⟩
theorem Room.rooms {A : Around} {n : Nat} (r : Room A (n + 1)) : Rooms A n 16 := ⟨by have := r.depth; show A.depth + _ < _; omega, by have := r.units; show A.units + 16 + _ < _; omega, r.handled, r.guards, r.frames⟩
theorem Rooms.units_lt {A : Around} {n f : Nat} (r : Rooms A n f) : A.units < cLine := by have := r.here.units; omega

mutual
/-- may the two stand at one address? -/
noncomputable def sameD : D → D → Bool
  | .glob _, _ => true
  | .none, b => (match b with
    | .glob _ => true
    | .none => true
    | _ => false)
  | .notImpl, b => (match b with
    | .glob _ => true
    | .notImpl => true
    | _ => false)
  | .bool a, b => (match b with
    | .glob _ => true
    | .bool b => a == b
    | _ => false)
  | .int a, b => (match b with
    | .glob _ => true
    | .int b => a == b
    | _ => false)
  | .str a, b => (match b with
    | .glob _ => true
    | .str b => a == b
    | _ => false)
  | .bytes a, b => (match b with
    | .glob _ => true
    | .bytes b => a == b
    | _ => false)
  | .tup a, b => (match b with
    | .glob _ => true
    | .tup b => sameL a b
    | _ => false)
  | .list a, b => (match b with
    | .glob _ => true
    | .list b => sameL a b
    | _ => false)
  | .obj C fs, b => (match b with
    | .glob _ => true
    | .obj C' gs => C == C' && sameF fs gs
    | _ => false)
  | .mtch .., b => (match b with
    | .glob _ => true
    | .mtch .. => true
    | _ => false)
  | .iter .., b => (match b with
    | .glob _ => true
    | .iter .. => true
    | _ => false)
noncomputable def sameL : List D → List D → Bool
  | [], [] => true
  | a :: as, b :: bs => sameD a b && sameL as bs
  | _, _ => false
noncomputable def sameF : List (Str × D) → List (Str × D) → Bool
  | [], [] => true
  | (x, a) :: as, (y, b) :: bs => sameD a b && sameF as bs
  | _, _ => false
end
theorem clash {h : Heap} {a : Addr} {o o' : Obj} {x y : Value} {P : Prop} (e : h.get? a = some o) (e' : h.get? a = some o') (hc : o.cls = x) (hc' : o'.cls = y) (hne : (x = y) → False) : P := by
  rw [e] at e'
  cases e'
  exact (hne (hc.symm.trans hc')).elim
mutual
theorem Rep.same {O : List Addr} {h : Heap} : ∀ {v : Value} {a b : D}, Rep O h v a → Rep O h v b → sameD a b = true
  | _, _, _, .glob v, r => by unfold sameD; rfl
  | _, _, _, .none, r => by cases r <;> simp only [sameD]
  | _, _, _, .notImpl, r => by cases r <;> simp only [sameD]
  | _, _, _, .bool _, r => by cases r <;> simp only [sameD, beq_self_eq_true]
  | _, _, _, .int _ _, r => by cases r <;> simp only [sameD, beq_self_eq_true]
  | _, _, _, .str _ _ _, r => by cases r <;> simp only [sameD, beq_self_eq_true]
  | _, _, _, .bytes _ _ _, r => by cases r <;> simp only [sameD, beq_self_eq_true]
  | _, _, _, .tup ha ho hc hd rs, r => by
    cases r with
    | glob => simp only [sameD]
    | tup ha' ho' hc' hd' rs' =>
      rw [ho] at ho'
      cases ho'
      rw [hd] at hd'
      cases hd'
      simp only [sameD]
      exact rs.same rs'
    | list ha' ho' hc' hd' rs' => exact clash ho ho' hc hc' (by simp)
    | obj ha' hb' ho' hd' rs' => exact clash ho ho' hc rfl (fun q => by cases q)
    | mtch ha' hb' ho' hc' => exact clash ho ho' hc hc' (by simp)
    | iter ha' hb' ho' hc' => exact clash ho ho' hc hc' (by simp)
  | _, _, _, .list ha ho hc hd rs, r => by
    cases r with
    | glob => simp only [sameD]
    | list ha' ho' hc' hd' rs' =>
      rw [ho] at ho'
      cases ho'
      rw [hd] at hd'
      cases hd'
      simp only [sameD]
      exact rs.same rs'
    | tup ha' ho' hc' hd' rs' => exact clash ho ho' hc hc' (by simp)
    | obj ha' hb' ho' hd' rs' => exact clash ho ho' hc rfl (fun q => by cases q)
    | mtch ha' hb' ho' hc' => exact clash ho ho' hc hc' (by simp)
    | iter ha' hb' ho' hc' => exact clash ho ho' hc hc' (by simp)
  | _, _, _, .obj ha hb ho hd rf, r => by
    cases r with
    | glob => simp only [sameD]
    | obj ha' hb' ho' hd' rf' =>
      rw [ho] at ho'
      cases ho'
      rw [hd] at hd'
      cases hd'
      simp only [sameD, beq_self_eq_true, Bool.true_and]
      exact rf.same rf'
    | tup ha' ho' hc' hd' rs' => exact clash ho ho' rfl hc' (fun q => by cases q)
    | list ha' ho' hc' hd' rs' => exact clash ho ho' rfl hc' (fun q => by cases q)
    | mtch ha' hb' ho' hc' => exact clash ho ho' rfl hc' (fun q => by cases q)
    | iter ha' hb' ho' hc' => exact clash ho ho' rfl hc' (fun q => by cases q)
  | _, _, _, .mtch ha hb ho hc .., r => by
    cases r with
    | glob => simp only [sameD]
    | mtch => simp only [sameD]
    | tup ha' ho' hc' hd' rs' => exact clash ho ho' hc hc' (by simp)
    | list ha' ho' hc' hd' rs' => exact clash ho ho' hc hc' (by simp)
    | obj ha' hb' ho' hd' rs' => exact clash ho ho' hc rfl (fun q => by cases q)
    | iter ha' hb' ho' hc' => exact clash ho ho' hc hc' (by simp)
  | _, _, _, .iter ha hb ho hc .., r => by
    cases r with
    | glob => simp only [sameD]
    | iter => simp only [sameD]
    | tup ha' ho' hc' hd' rs' => exact clash ho ho' hc hc' (by simp)
    | list ha' ho' hc' hd' rs' => exact clash ho ho' hc hc' (by simp)
    | obj ha' hb' ho' hd' rs' => exact clash ho ho' hc rfl (fun q => by cases q)
    | mtch ha' hb' ho' hc' => exact clash ho ho' hc hc' (by simp)
theorem RepL.same {O : List Addr} {h : Heap} : ∀ {v : List Value} {a b : List D}, RepL O h v a → RepL O h v b → sameL a b = true
  | _, _, _, .nil, .nil => rfl
  | _, _, _, .cons r rs, .cons r' rs' => by
    simp only [sameL, r.same r', Bool.true_and]
    exact rs.same rs'
theorem RepF.same {O : List Addr} {h : Heap} : ∀ {v : List DictEntry} {a b : List (Str × D)}, RepF O h v a → RepF O h v b → sameF a b = true
  | _, _, _, .nil, .nil => rfl
  | _, _, _, .cons r rs, .cons r' rs' => by
    simp only [sameF, r.same r', Bool.true_and]
    exact rs.same rs'
end

/-- comparisons -/
noncomputable def intCmp : CmpOp → Int → Int → Option Bool
  | .Eq, i, j => some (i == j)
  | .NotEq, i, j => some (i != j)
  | .Lt, i, j => some (decide (i < j))
  | .LtE, i, j => some (decide (i ≤ j))
  | .Gt, i, j => some (decide (j < i))
  | .GtE, i, j => some (decide (j ≤ i))
  | _, _, _ => none
noncomputable def strCmp : CmpOp → Str → Str → Option Bool
  | .Eq, i, j => some (i == j)
  | .NotEq, i, j => some (i != j)
  | .Lt, i, j => some (decide (i.cps.toList < j.cps.toList))
  | .Gt, i, j => some (decide (j.cps.toList < i.cps.toList))
  | _, _, _ => none
noncomputable def bytesCmp : CmpOp → Array UInt8 → Array UInt8 → Option Bool
  | .Eq, i, j => some (i.toList == j.toList)
  | .Lt, i, j => some (Builtin.Bytes.holds "__lt__" (Builtin.Bytes.order i.toList j.toList))
  | _, _, _ => none
noncomputable def eqOf (rc : CmpOp → D → D → Option D) (a b : D) : Option Bool := match a, b with
  | .int i, .int j => some (i == j)
  | .str x, .str y => some (x == y)
  | a, b => match rc .Eq a b with
    | some (.bool t) => if t || !sameD a b then some t else none
    | _ => none
noncomputable def sizesB (op : CmpOp) (m n : Nat) : Bool := match op with
  | .Eq => m == n | .NotEq => m != n | .Lt => m < n | .LtE => m ≤ n | .Gt => m > n | _ => m ≥ n
noncomputable def rcL (rc : CmpOp → D → D → Option D) (op : CmpOp) (m n : Nat) : List D → List D → Option D
  | a :: as, b :: bs => match eqOf rc a b with
    | some true => rcL rc op m n as bs
    | some false => (match op with
      | .Eq => some (.bool false)
      | .NotEq => some (.bool true)
      | op => match rc op a b with
        | some (.bool t) => some (.bool t)
        | _ => none)
    | none => none
  | _, _ => some (.bool (sizesB op m n))
noncomputable def isOrd : CmpOp → Bool
  | .Eq | .NotEq | .Lt | .LtE | .Gt | .GtE => true
  | _ => false
noncomputable def rcN (oc : CmpOp → Addr → List (Str × D) → Addr → List (Str × D) → Option D) : Nat → CmpOp → D → D → Option D
  | 0, _, _, _ => none
  | n + 1, op, a, b => match a, b with
    | .int i, .int j => (intCmp op i j).map .bool
    | .str x, .str y => (strCmp op x y).map .bool
    | .bytes x, .bytes y => (bytesCmp op x y).map .bool
    | .tup l, .tup r => if isOrd op then rcL (rcN oc n) op l.length r.length l r else none
    | .list l, .list r => (match op with
      | .Lt | .Gt => rcL (rcN oc n) op l.length r.length l r
      | _ => none)
    | .obj C fs, .obj C' gs => oc op C fs C' gs
    | .none, .none => (match op with | .Eq => some (.bool true) | .NotEq => some (.bool false) | _ => none)
    | .int _, .none | .none, .int _ | .str _, .none | .none, .str _ => (match op with | .Eq => some (.bool false) | .NotEq => some (.bool true) | _ => none)
    | .bool p, .bool q => (match op with | .Eq => some (.bool (p == q)) | _ => none)
    | _, _ => none

theorem slot_bytes_lt : Slot "bytes" (cmpInfo .Lt).2.1 "bytes.__lt__" :=
  .of (owner := "bytes") (n := "__lt__") (by rw [typeLookup_type, builtinLookup_eq_fast]; kernel_rfl) (of_decide_eq_true (by first | k_qdec | decide +kernel)) (of_decide_eq_true (by first | k_qdec | decide +kernel)) (of_decide_eq_true (by first | k_qdec | decide +kernel))
    (by first | exact .inl (by decide +kernel) | exact .inr (by decide +kernel)) (by rw [isSubtype_type]; kernel_rfl)
theorem entry_bytes_lt : entryFor table "bytes.__lt__" = some Builtin.«bytes.__lt__» := entryFor_of_tree (by kernel_rfl)
theorem args_bytes_lt_2 (a b : Value) : argsOk "bytes.__lt__" ⟨[a, b], []⟩ := by unfold argsOk; kernel_rfl
theorem gives_bytes_lt (b c : Array UInt8) (t u : Tok) : PySem.Gives (Builtin.«bytes.__lt__» ⟨[.bytes b t, .bytes c u], []⟩) (.val (.bool (Builtin.Bytes.holds "__lt__" (Builtin.Bytes.order b.toList c.toList)))) := by
  refine .of_wp fun M A E s Q hq => ?_
  show wpAny M A (isInstance (.bytes c u) (.type "bytes") >>= fun r => _) _ E s
  refine wpAny_bind (wpAny_isInstance (typeIs_bytes s c u) F.sub_bytes_bytes ?_)
  exact wpAny_pure ⟨_, rfl, hq⟩
section
variable {prog : Program} {w : World} {A : Around} {E : Value → Shared → Prop} {s : Shared} {b c : Array UInt8} {t u : Tok}
theorem lt_bytes {Q : Value → Shared → Prop} (h : Q (.bool (Builtin.Bytes.holds "__lt__" (Builtin.Bytes.order b.toList c.toList))) s) : wpAny (model prog w) A (compareOp .Lt (.bytes b t) (.bytes c u)) Q E s :=
  compareOp_gives (op := .Lt) (typeIs_bytes s b t) (typeIs_bytes s c u) slot_bytes_lt entry_bytes_lt (args_bytes_lt_2 _ _) (gives_bytes_lt b c t u) (fun e => nomatch e) h
end
end Mine
end
section
open PySem PySem.W PyProof.Rows
set_option maxRecDepth 100000
namespace Mine

noncomputable def notFloat : Value → Bool
  | .float .. => false
  | _ => true
section
variable {prog : Program} {w : World} {A : Around} {O : List Addr} {s : Shared}
theorem gives_eqBool {a b : Value} {t : Bool} (hf : notFloat a = true) (hs : a = b → t = true) (h : Gives prog w O A (richCompare .Eq a b) s (.bool t)) : GivesB prog w A (eqBool a b) s t := by
  intro Q E q
  unfold eqBool
  refine wpAny_holding ?_
  by_cases e : (a == b) = true
  · rw [if_pos e]
    have := hs (beq_iff_eq.mp e)
    subst this
    exact wpAny_bind (wpAny_rule (wpAny_pure (q _ (.refl _ _))))
  · rw [if_neg e]
    have tail : wpAny (model prog w) A (do let r ← richCompare .Eq a b; truthOfDropped r) Q E s :=
      wpAny_bind (h _ _ fun v s' x r => by
        obtain rfl := r.inv
        exact wpAny_truthy_bool (q _ x))
    refine wpAny_bind (wpAny_pure ?_)
    cases a <;> first | exact tail | cases hf
end

section
variable {prog : Program} {w : World} {K : Frag} {B : Nat} (k : Kok K B) {n : Nat}
noncomputable def ObjCmpOk (prog : Program) (w : World) (K : Frag) (B n : Nat) (oc : CmpOp → Addr → List (Str × D) → Addr → List (Str × D) → Option D) : Prop :=
  ∀ {op C fs C' gs d}, oc op C fs C' gs = some d → ∀ {A O s va vb}, Rooms A n 1 → Inv K B s → OLow O s → Rep O s.heap va (.obj C fs) → Rep O s.heap vb (.obj C' gs) → Gives prog w O A (richCompare op va vb) s d
noncomputable def RcOk (prog : Program) (w : World) (K : Frag) (B n m : Nat) (rc : CmpOp → D → D → Option D) : Prop :=
  ∀ {op a b d}, rc op a b = some d → ∀ {A O s va vb}, Rooms A n m → Inv K B s → OLow O s → Rep O s.heap va a → Rep O s.heap vb b → Gives prog w O A (richCompare op va vb) s d

theorem bool_gives {A : Around} {O : List Addr} {s : Shared} {t : Sem Value} {b : Bool} (h : ∀ (Q : Value → Shared → Prop) (E : Value → Shared → Prop), Q (.bool b) s → wpAny (model prog w) A t Q E s) : Gives prog w O A t s (.bool b) :=
  fun Q E q => h Q E (q _ _ (.refl _ _) (.bool _))

theorem rep_notFloat {O : List Addr} {h : Heap} {v : Value} {a : D} (r : Rep O h v a) (hg : ∀ x, a ≠ .glob x) : notFloat v = true := by
  cases r <;> first | rfl | exact absurd rfl (hg _)

theorem eqOf_ok {m : Nat} {rc : CmpOp → D → D → Option D} (hrc : RcOk prog w K B n m rc) (hglob : ∀ op v b, rc op (.glob v) b = none) {a b : D} {t : Bool} (h : eqOf rc a b = some t) {A : Around} {O : List Addr} {s : Shared} {va vb : Value} (hA : Rooms A n m) (I : Inv K B s) (hO : OLow O s)
    (ra : Rep O s.heap va a) (rb : Rep O s.heap vb b) : GivesB prog w A (eqBool va vb) s t := by
  unfold eqOf at h
  split at h
  · cases h; (first | obtain rfl := ra.inv | obtain ⟨_, rfl⟩ := ra.inv | obtain ⟨_, rfl, _⟩ := ra.inv); (first | obtain rfl := rb.inv | obtain ⟨_, rfl⟩ := rb.inv | obtain ⟨_, rfl, _⟩ := rb.inv)
    exact gives_eqBool (O := []) rfl (fun e => by cases e; simp) (bool_gives fun Q E q => (eq_int q : wpAny _ _ (compareOp .Eq _ _) Q E s))
  · cases h; (first | obtain rfl := ra.inv | obtain ⟨_, rfl⟩ := ra.inv | obtain ⟨_, rfl, _⟩ := ra.inv); (first | obtain rfl := rb.inv | obtain ⟨_, rfl⟩ := rb.inv | obtain ⟨_, rfl, _⟩ := rb.inv)
    exact gives_eqBool (O := []) rfl (fun e => by cases e; simp) (bool_gives fun Q E q => (PyProof.Rows.eq_str q : wpAny _ _ (compareOp .Eq _ _) Q E s))
  · split at h
    · rename_i t' hc
      split at h
      · rename_i ht
        cases h
        refine gives_eqBool (O := O) (rep_notFloat ra ?_) (fun e => ?_) (hrc hc hA I hO ra rb)
        · rintro x rfl
          rw [hglob] at hc
          cases hc
        · subst e
          rw [ra.same rb] at ht
          simpa using ht
      · cases h
    · cases h

include k in
theorem tupRun_ok {m : Nat} {rc : CmpOp → D → D → Option D} (hrc : RcOk prog w K B n m rc) (hglob : ∀ op v b, rc op (.glob v) b = none) {op : CmpOp} {p q : Nat} {A : Around} (hA : Rooms A n m) : ∀ {l r : List D} {d : D}, rcL rc op p q l r = some d → ∀ {O : List Addr} {s : Shared} {vs ws : List Value},
    Inv K B s → OLow O s → RepL O s.heap vs l → RepL O s.heap ws r → ∀ {Q E : Value → Shared → Prop}, (∀ t s', Stp [] s s' → d = .bool t → Q (.bool t) s') → TupRun prog w A op p q Q E (vs.zip ws) s
  | [], r, d, h, O, s, _, ws, I, hO, .nil, rs, Q, E, qq => by
    unfold rcL at h
    cases h
    exact qq _ _ (.refl _ _) rfl
  | a :: as, [], d, h, O, s, _, _, I, hO, .cons .., .nil, Q, E, qq => by
    unfold rcL at h
    cases h
    exact qq _ _ (.refl _ _) rfl
  | a :: as, b :: bs, d, h, O, s, _, _, I, hO, .cons ra ras, .cons rb rbs, Q, E, qq => by
    unfold rcL at h
    show wpAny _ _ (eqBool _ _) _ _ _
    split at h
    · rename_i he
      refine eqOf_ok hrc hglob he hA I hO ra rb _ _ fun s' x => ?_
      rw [if_pos rfl]
      exact tupRun_ok hrc hglob hA h (I.on k x) (hO.on x) (ras.on x) (rbs.on x) fun t s'' y e => qq t s'' (x.tr y) e
    · rename_i he
      refine eqOf_ok hrc hglob he hA I hO ra rb _ _ fun s' x => ?_
      rw [if_neg Bool.false_ne_true]
      split at h
      · cases h; exact qq _ _ x rfl
      · cases h; exact qq _ _ x rfl
      · rename_i h1 h2
        split at h
        · rename_i t hc
          cases h
          have z := hrc hc hA (I.on k x) (hO.on x) (ra.on x) (rb.on x) Q E fun v s'' y r => by
            obtain rfl := r.inv
            exact qq _ _ (x.tr y) rfl
          unfold TupEnd
          cases op <;> first | exact z | exact absurd rfl h1 | exact absurd rfl h2
        · cases h
    · cases h

include k in
theorem lstRun_ok {m : Nat} {rc : CmpOp → D → D → Option D} (hrc : RcOk prog w K B n m rc) (hglob : ∀ op v b, rc op (.glob v) b = none) {op : CmpOp} {p q : Nat} {A : Around} (hA : Rooms A n m) {P : Shared → Prop} (hP : ∀ s s', P s → Stp [] s s' → P s') : ∀ {l r : List D} {d : D}, rcL rc op p q l r = some d → ∀ {O : List Addr} {s : Shared} {vs ws : List Value},
    Inv K B s → OLow O s → P s → RepL O s.heap vs l → RepL O s.heap ws r → ∀ {Q E : Value → Shared → Prop}, (∀ t s', Stp [] s s' → d = .bool t → Q (.bool t) s') → LstRun prog w A P op p q Q E (vs.zip ws) s
  | [], r, d, h, O, s, _, ws, I, hO, p0, .nil, rs, Q, E, qq => by
    unfold rcL at h
    cases h
    exact qq _ _ (.refl _ _) rfl
  | a :: as, [], d, h, O, s, _, _, I, hO, p0, .cons .., .nil, Q, E, qq => by
    unfold rcL at h
    cases h
    exact qq _ _ (.refl _ _) rfl
  | a :: as, b :: bs, d, h, O, s, _, _, I, hO, p0, .cons ra ras, .cons rb rbs, Q, E, qq => by
    unfold rcL at h
    show wpAny _ _ (eqBool _ _) _ _ _
    split at h
    · rename_i he
      refine eqOf_ok hrc hglob he hA I hO ra rb _ _ fun s' x => ⟨hP _ _ p0 x, ?_⟩
      rw [if_pos rfl]
      exact lstRun_ok hrc hglob hA hP h (I.on k x) (hO.on x) (hP _ _ p0 x) (ras.on x) (rbs.on x) fun t s'' y e => qq t s'' (x.tr y) e
    · rename_i he
      refine eqOf_ok hrc hglob he hA I hO ra rb _ _ fun s' x => ⟨hP _ _ p0 x, ?_⟩
      rw [if_neg Bool.false_ne_true]
      split at h
      · cases h; exact qq _ _ x rfl
      · cases h; exact qq _ _ x rfl
      · rename_i h1 h2
        split at h
        · rename_i t hc
          cases h
          have z := hrc hc hA (I.on k x) (hO.on x) (ra.on x) (rb.on x) Q E fun v s'' y r => by
            obtain rfl := r.inv
            exact qq _ _ (x.tr y) rfl
          unfold TupEnd
          cases op <;> first | exact z | exact absurd rfl h1 | exact absurd rfl h2
        · cases h
    · cases h

theorem rcN_glob (oc : CmpOp → Addr → List (Str × D) → Addr → List (Str × D) → Option D) (m : Nat) (op : CmpOp) (v : Value) (b : D) : rcN oc m op (.glob v) b = none := by
  cases m with
  | zero => rfl
  | succ m => unfold rcN; cases b <;> rfl
theorem rcL_bool {rc : CmpOp → D → D → Option D} {op : CmpOp} {p q : Nat} : ∀ {l r : List D} {d : D}, rcL rc op p q l r = some d → ∃ t, d = .bool t
  | [], r, d, h => by unfold rcL at h; cases h; exact ⟨_, rfl⟩
  | a :: as, [], d, h => by unfold rcL at h; cases h; exact ⟨_, rfl⟩
  | a :: as, b :: bs, d, h => by
    unfold rcL at h
    split at h
    · exact rcL_bool h
    · split at h
      · cases h; exact ⟨_, rfl⟩
      · cases h; exact ⟨_, rfl⟩
      · split at h
        · cases h; exact ⟨_, rfl⟩
        · cases h
    · cases h

include k in
theorem rc_ok {oc : CmpOp → Addr → List (Str × D) → Addr → List (Str × D) → Option D} (hoc : ObjCmpOk prog w K B n oc) : ∀ m, RcOk prog w K B n m (rcN oc m)
  | 0, _, _, _, _, h, _, _, _, _, _, _, _, _, _, _ => by cases h
  | m + 1, op, a, b, d, h, A, O, s, va, vb, hA, I, hO, ra, rb => by
    have hu : A.units < cLine := hA.units_lt
    unfold rcN at h
    split at h
    · -- ints
      obtain ⟨t, ht, rfl⟩ := Option.map_eq_some_iff.mp h
      (first | obtain rfl := ra.inv | obtain ⟨_, rfl⟩ := ra.inv | obtain ⟨_, rfl, _⟩ := ra.inv); (first | obtain rfl := rb.inv | obtain ⟨_, rfl⟩ := rb.inv | obtain ⟨_, rfl, _⟩ := rb.inv)
      unfold intCmp at ht
      split at ht
      · cases ht; exact bool_gives fun Q E q => (eq_int q : wpAny _ _ (compareOp .Eq _ _) Q E s)
      · cases ht; exact bool_gives fun Q E q => (ne_int q : wpAny _ _ (compareOp .NotEq _ _) Q E s)
      · cases ht; exact bool_gives fun Q E q => (lt_int q : wpAny _ _ (compareOp .Lt _ _) Q E s)
      · cases ht; exact bool_gives fun Q E q => (le_int q : wpAny _ _ (compareOp .LtE _ _) Q E s)
      · cases ht; exact bool_gives fun Q E q => (gt_int q : wpAny _ _ (compareOp .Gt _ _) Q E s)
      · cases ht; exact bool_gives fun Q E q => (ge_int q : wpAny _ _ (compareOp .GtE _ _) Q E s)
      · cases ht
    · -- strs
      obtain ⟨t, ht, rfl⟩ := Option.map_eq_some_iff.mp h
      (first | obtain rfl := ra.inv | obtain ⟨_, rfl⟩ := ra.inv | obtain ⟨_, rfl, _⟩ := ra.inv); (first | obtain rfl := rb.inv | obtain ⟨_, rfl⟩ := rb.inv | obtain ⟨_, rfl, _⟩ := rb.inv)
      unfold strCmp at ht
      split at ht
      · cases ht; exact bool_gives fun Q E q => (PyProof.Rows.eq_str q : wpAny _ _ (compareOp .Eq _ _) Q E s)
      · cases ht; exact bool_gives fun Q E q => (PyProof.Rows.ne_str q : wpAny _ _ (compareOp .NotEq _ _) Q E s)
      · cases ht; exact bool_gives fun Q E q => (PyProof.Rows.lt_str q : wpAny _ _ (compareOp .Lt _ _) Q E s)
      · cases ht; exact bool_gives fun Q E q => (P.gt_str q : wpAny _ _ (compareOp .Gt _ _) Q E s)
      · cases ht
    · -- bytes
      obtain ⟨t, ht, rfl⟩ := Option.map_eq_some_iff.mp h
      (first | obtain rfl := ra.inv | obtain ⟨_, rfl⟩ := ra.inv | obtain ⟨_, rfl, _⟩ := ra.inv); (first | obtain rfl := rb.inv | obtain ⟨_, rfl⟩ := rb.inv | obtain ⟨_, rfl, _⟩ := rb.inv)
      unfold bytesCmp at ht
      split at ht
      · cases ht; exact bool_gives fun Q E q => (eq_bytes q : wpAny _ _ (compareOp .Eq _ _) Q E s)
      · cases ht; exact bool_gives fun Q E q => (lt_bytes q : wpAny _ _ (compareOp .Lt _ _) Q E s)
      · cases ht
    · -- tuples
      split at h
      · rename_i hop
        obtain ⟨t, rfl⟩ := rcL_bool h
        obtain ⟨x, vs, rfl, _, ⟨⟨cls, dd, data, sl⟩, ho, hc, n1, hd⟩, rs⟩ := ra.tup_inv
        obtain ⟨y, ws, rfl, _, ⟨⟨cls2, dd2, data2, sl2⟩, ho2, hc2, n2, hd2⟩, rs2⟩ := rb.tup_inv
        simp only at hc hd hc2 hd2
        subst hc hd hc2 hd2
        intro Q E q
        have tx : s.TypeIs (.ref x) "tuple" := ⟨_, ho, rfl⟩
        have ty : s.TypeIs (.ref y) "tuple" := ⟨_, ho2, rfl⟩
        have run := tupRun_ok k (rc_ok hoc m) (rcN_glob oc m) hA.in1 h I hO rs rs2 (Q := fun v s' => v ≠ .notImplemented ∧ Q v s') (E := E) fun t s' z e => ⟨(by intro e'; cases e'), q _ _ z (by cases e; exact .bool _)⟩
        rw [← rs.length, ← rs2.length] at run
        cases op <;> first
          | exact wpAny_richCompare_same_room tx ty F.slot_tuple_eq (call_meetsIn F.slot_tuple_eq tx F.entry_tuple_eq (F.args_tuple_eq_2 _ _) (tuple_eq_run prog w x y vs.toArray ws.toArray n1 n2 dd dd2 sl sl2) ⟨ho, ho2, run⟩) hu
          | exact wpAny_richCompare_same_room tx ty F.slot_tuple_ne (call_meetsIn F.slot_tuple_ne tx F.entry_tuple_ne (F.args_tuple_ne_2 _ _) (tuple_ne_run prog w x y vs.toArray ws.toArray n1 n2 dd dd2 sl sl2) ⟨ho, ho2, run⟩) hu
          | exact wpAny_richCompare_same_room tx ty F.slot_tuple_lt (call_meetsIn F.slot_tuple_lt tx F.entry_tuple_lt (F.args_tuple_lt_2 _ _) (tuple_lt_run prog w x y vs.toArray ws.toArray n1 n2 dd dd2 sl sl2) ⟨ho, ho2, run⟩) hu
          | exact wpAny_richCompare_same_room tx ty F.slot_tuple_le (call_meetsIn F.slot_tuple_le tx F.entry_tuple_le (F.args_tuple_le_2 _ _) (tuple_le_run prog w x y vs.toArray ws.toArray n1 n2 dd dd2 sl sl2) ⟨ho, ho2, run⟩) hu
          | exact wpAny_richCompare_same_room tx ty F.slot_tuple_gt (call_meetsIn F.slot_tuple_gt tx F.entry_tuple_gt (F.args_tuple_gt_2 _ _) (tuple_gt_run prog w x y vs.toArray ws.toArray n1 n2 dd dd2 sl sl2) ⟨ho, ho2, run⟩) hu
          | exact wpAny_richCompare_same_room tx ty F.slot_tuple_ge (call_meetsIn F.slot_tuple_ge tx F.entry_tuple_ge (F.args_tuple_ge_2 _ _) (tuple_ge_run prog w x y vs.toArray ws.toArray n1 n2 dd dd2 sl sl2) ⟨ho, ho2, run⟩) hu
          | cases hop
      · cases h
    · -- lists
      have go : (op = .Lt ∨ op = .Gt) → ∀ {l r : List D}, rcL (rcN oc m) op l.length r.length l r = some d → Rep O s.heap va (.list l) → Rep O s.heap vb (.list r) → Gives prog w O A (richCompare op va vb) s d := by
        intro hop l r h ra rb
        obtain ⟨t, rfl⟩ := rcL_bool h
        obtain ⟨x, vs, rfl, _, ⟨⟨cls, dd, data, sl⟩, ho, hc, n1, hd⟩, rs⟩ := ra.list_inv
        obtain ⟨y, ws, rfl, _, ⟨⟨cls2, dd2, data2, sl2⟩, ho2, hc2, n2, hd2⟩, rs2⟩ := rb.list_inv
        simp only at hc hd hc2 hd2
        subst hc hd hc2 hd2
        intro Q E q
        have tx : s.TypeIs (.ref x) "list" := ⟨_, ho, rfl⟩
        have ty : s.TypeIs (.ref y) "list" := ⟨_, ho2, rfl⟩
        have nt : ∀ {a b c : _} {o : Obj}, o = { cls := .type "list", dict := a, data := b, slots := c } → ¬ IsTab o := fun e => notTab_cls (c := .type "list") (by rw [e]) (by intro q; cases q)
        have run := lstRun_ok k (rc_ok hoc m) (rcN_glob oc m) hA.in1 (P := fun s => s.heap.get? x = some { cls := .type "list", dict := dd, data := .seq vs.toArray n1, slots := sl } ∧ s.heap.get? y = some { cls := .type "list", dict := dd2, data := .seq ws.toArray n2, slots := sl2 })
          (fun s s' p z => ⟨z.keep _ _ p.1 (nt rfl) (by simp), z.keep _ _ p.2 (nt rfl) (by simp)⟩) h I hO ⟨ho, ho2⟩ rs rs2 (Q := fun v s' => v ≠ .notImplemented ∧ Q v s') (E := E) fun t s' z e => ⟨(by intro e'; cases e'), q _ _ z (by cases e; exact .bool _)⟩
        rw [← rs.length, ← rs2.length] at run
        rcases hop with rfl | rfl
        · exact wpAny_richCompare_same_room tx ty F.slot_list_lt (call_meetsIn F.slot_list_lt tx F.entry_list_lt (F.args_list_lt_2 _ _) (list_lt_run prog w x y vs.toArray ws.toArray n1 n2 dd dd2 sl sl2) ⟨ho, ho2, run⟩) hu
        · exact wpAny_richCompare_same_room tx ty F.slot_list_gt (call_meetsIn F.slot_list_gt tx F.entry_list_gt (F.args_list_gt_2 _ _) (list_gt_run prog w x y vs.toArray ws.toArray n1 n2 dd dd2 sl sl2) ⟨ho, ho2, run⟩) hu
      split at h
      · exact go (.inl rfl) h ra rb
      · exact go (.inr rfl) h ra rb
      · cases h
    · -- instances
      exact hoc h (hA.less (Nat.succ_le_succ (Nat.zero_le _))) I hO ra rb
    · (first | obtain rfl := ra.inv | obtain ⟨_, rfl⟩ := ra.inv | obtain ⟨_, rfl, _⟩ := ra.inv); (first | obtain rfl := rb.inv | obtain ⟨_, rfl⟩ := rb.inv | obtain ⟨_, rfl, _⟩ := rb.inv)
      split at h
      · cases h; exact bool_gives fun Q E q => (EqNone.eq_none_none q : wpAny _ _ (compareOp .Eq _ _) Q E s)
      · cases h; exact bool_gives fun Q E q => (EqNone.ne_none_none q : wpAny _ _ (compareOp .NotEq _ _) Q E s)
      · cases h
    · (first | obtain rfl := ra.inv | obtain ⟨_, rfl⟩ := ra.inv | obtain ⟨_, rfl, _⟩ := ra.inv); (first | obtain rfl := rb.inv | obtain ⟨_, rfl⟩ := rb.inv | obtain ⟨_, rfl, _⟩ := rb.inv)
      split at h
      · cases h; exact bool_gives fun Q E q => (EqNone.eq_int_none q : wpAny _ _ (compareOp .Eq _ _) Q E s)
      · cases h; exact bool_gives fun Q E q => (EqNone.ne_int_none q : wpAny _ _ (compareOp .NotEq _ _) Q E s)
      · cases h
    · (first | obtain rfl := ra.inv | obtain ⟨_, rfl⟩ := ra.inv | obtain ⟨_, rfl, _⟩ := ra.inv); (first | obtain rfl := rb.inv | obtain ⟨_, rfl⟩ := rb.inv | obtain ⟨_, rfl, _⟩ := rb.inv)
      split at h
      · cases h; exact bool_gives fun Q E q => (EqNone.eq_none_int q : wpAny _ _ (compareOp .Eq _ _) Q E s)
      · cases h; exact bool_gives fun Q E q => (EqNone.ne_none_int q : wpAny _ _ (compareOp .NotEq _ _) Q E s)
      · cases h
    · (first | obtain rfl := ra.inv | obtain ⟨_, rfl⟩ := ra.inv | obtain ⟨_, rfl, _⟩ := ra.inv); (first | obtain rfl := rb.inv | obtain ⟨_, rfl⟩ := rb.inv | obtain ⟨_, rfl, _⟩ := rb.inv)
      split at h
      · cases h; exact bool_gives fun Q E q => (EqNone.eq_str_none q : wpAny _ _ (compareOp .Eq _ _) Q E s)
      · cases h; exact bool_gives fun Q E q => (EqNone.ne_str_none q : wpAny _ _ (compareOp .NotEq _ _) Q E s)
      · cases h
    · (first | obtain rfl := ra.inv | obtain ⟨_, rfl⟩ := ra.inv | obtain ⟨_, rfl, _⟩ := ra.inv); (first | obtain rfl := rb.inv | obtain ⟨_, rfl⟩ := rb.inv | obtain ⟨_, rfl, _⟩ := rb.inv)
      split at h
      · cases h; exact bool_gives fun Q E q => (EqNone.eq_none_str q : wpAny _ _ (compareOp .Eq _ _) Q E s)
      · cases h; exact bool_gives fun Q E q => (EqNone.ne_none_str q : wpAny _ _ (compareOp .NotEq _ _) Q E s)
      · cases h
    · (first | obtain rfl := ra.inv | obtain ⟨_, rfl⟩ := ra.inv | obtain ⟨_, rfl, _⟩ := ra.inv); (first | obtain rfl := rb.inv | obtain ⟨_, rfl⟩ := rb.inv | obtain ⟨_, rfl, _⟩ := rb.inv)
      split at h
      · cases h; exact bool_gives fun Q E q => (eq_bool q : wpAny _ _ (compareOp .Eq _ _) Q E s)
      · cases h
    · cases h
end
end Mine
end
section
open PySem PySem.W PyProof.Rows
set_option maxRecDepth 100000
namespace Mine

noncomputable def asTry : Option D → Option (Option Bool)
  | some (.bool t) => some (some t)
  | some .notImpl => some none
  | _ => none
noncomputable def tryD (K : Frag) (ops : Ops) (C : Addr) (name : Str) (a b : D) : Option (Option Bool) := match findIn K (.ref C) name with
  | some (some (.ref f)) => if isFn K (.ref f) then asTry (ops.call (.glob (.ref f)) [a, b] []) else none
  | some (some (.builtin i)) => if i = "object.__ne__" then (match findIn K (.ref C) "__eq__" with
      | some (some (.ref f)) => if isFn K (.ref f) ∧ subIn K (.ref C) (.type "object") = some true then (asTry (ops.call (.glob (.ref f)) [a, b] [])).map (·.map (!·)) else none
      | _ => none) else none
  | _ => none
noncomputable def objCmp (K : Frag) (ops : Ops) (op : CmpOp) (C : Addr) (fs : List (Str × D)) (C' : Addr) (gs : List (Str × D)) : Option D :=
  if notFirst K C (.ref C') then match tryD K ops C (cmpInfo op).2.1 (.obj C fs) (.obj C' gs) with
    | some (some t) => some (.bool t)
    | some none => (match tryD K ops C' (cmpInfo op).2.2 (.obj C' gs) (.obj C fs) with
      | some (some t) => some (.bool t)
      | some none => if C = C' then none else (match op with
        | .Eq => some (.bool false)
        | .NotEq => some (.bool true)
        | _ => none)
      | none => none)
    | none => none
  else none

theorem slot_object_ne : Slot "object" "__ne__" "object.__ne__" :=
  .of (owner := "object") (n := "__ne__") (by rw [typeLookup_type, builtinLookup_eq_fast]; kernel_rfl) (of_decide_eq_true (by first | k_qdec | decide +kernel)) (of_decide_eq_true (by first | k_qdec | decide +kernel)) (of_decide_eq_true (by first | k_qdec | decide +kernel)) (.inl (of_decide_eq_true (by first | k_qdec | decide +kernel))) (by rw [isSubtype_type]; kernel_rfl)

section
variable {prog : Program} {w : World} {K : Frag} {B : Nat} (k : Kok K B) {n : Nat} {ops : Ops} (ok : OpsOk prog w K B n ops)

theorem ifBound_builtin {M : Model} {A : Around} {s : Shared} {E : Value → Shared → Prop} {x C : Addr} {ox : Obj} {od : Option Obj} {name : Str} {i : String} {args : List Value} {Q : Option Value → Shared → Prop} (X : K.In s.heap) (I : InstAt s.heap x ox C od) (hs : findIn K (.ref C) name = some (some (.builtin i)))
    (hb : ∀ self, bindSpecial (.builtin i) self = pure (.builtin i, [self])) (h : wpAny M A (call (.builtin i) (.ref x :: args)) (fun v => Q (some v)) E s) : wpAny M A (callSpecialIfBound? (.ref x) name args) Q E s := by
  simp only [callSpecialIfBound?, bindSpecialIfBound?]
  refine wpAny_holding (wpAny_bind (wpAny_bind (wpAny_bind (I.type.here ((looks_findIn X hs).here ?_)))))
  refine wpAny_bind (wpAny_askSetting (wpAny_ite ?_))
  have fin : wpAny M A (bind (m := Sem) (call (Value.builtin i) (Value.ref x :: args)) fun v => pure (some v)) Q E s := by
    refine wpAny_bind ?_
    exact wpAny_mono h (fun v s' h' => wpAny_pure h') fun _ _ h' => h'
  rw [hb]
  split
  · exact wpAny_bind (wpAny_pure (wpAny_pure (by exact fin)))
  · exact wpAny_tryCatch (wpAny_bind (wpAny_pure (wpAny_pure (by exact fin))))

theorem asTry_some {x : Option D} {t : Bool} (h : asTry x = some (some t)) : x = some (.bool t) := by
  unfold asTry at h; split at h <;> cases h; rfl
theorem asTry_none {x : Option D} (h : asTry x = some none) : x = some .notImpl := by
  unfold asTry at h; split at h <;> cases h; rfl
noncomputable def TryIs : Option Bool → Option Value → Prop
  | some t, r => r = some (.bool t)
  | none, r => r = none
include k ok in
theorem asTry_ok {f : Addr} {a b : D} {r : Option Bool} (h : asTry (ops.call (.glob (.ref f)) [a, b] []) = some r) {A : Around} {O : List Addr} {s : Shared} {va vb : Value} (hA : Room A n) (I : Inv K B s) (hO : OLow O s) (ra : Rep O s.heap va a) (rb : Rep O s.heap vb b)
    {Q : Value → Shared → Prop} {E : Value → Shared → Prop} (q : ∀ v s', Stp [] s s' → v = (match r with | some t => .bool t | none => .notImplemented) → Q v s') : wpAny (model prog w) A (call (.ref f) [va, vb]) Q E s := by
  cases r with
  | some t =>
    refine ((ok.call (asTry_some h) hA I hO (.glob _)) s (.refl _ _)).2 [va, vb] [] (.cons ra (.cons rb .nil)) .nil Q E fun v s' x r => ?_
    obtain rfl := r.inv
    exact q _ _ x rfl
  | none =>
    refine ((ok.call (asTry_none h) hA I hO (.glob _)) s (.refl _ _)).2 [va, vb] [] (.cons ra (.cons rb .nil)) .nil Q E fun v s' x r => ?_
    obtain rfl := r.inv
    exact q _ _ x rfl
include k ok in
theorem try_ok {C : Addr} {name : Str} {fs : List (Str × D)} {b : D} {r : Option Bool} (h : tryD K ops C name (.obj C fs) b = some r) {A : Around} {O : List Addr} {s : Shared} {va vb : Value} (hA : Rooms A n 1) (I : Inv K B s) (hO : OLow O s)
    (ra : Rep O s.heap va (.obj C fs)) (rb : Rep O s.heap vb b) {Q : Option Value → Shared → Prop} {E : Value → Shared → Prop} (q : ∀ x s', Stp [] s s' → TryIs r x → Q x s') : wpAny (model prog w) A (tryCompare va name vb) Q E s := by
  obtain ⟨a, dx, es, n', rfl, hne, h1, h2, h3⟩ := SelfAt.of ra
  have IA : InstAt s.heap a (instObj C dx) C (some (dictOf es n')) := ⟨h1, rfl, rfl, h2⟩
  unfold tryD at h
  split at h
  · rename_i f hf
    split at h
    · rename_i hfn
      unfold tryCompare
      refine wpAny_bind (ifBound_K I.X IA hf hfn (asTry_ok k ok h hA.here I hO ra rb fun v s' x e => ?_))
      subst e
      cases r with
      | some t => exact wpAny_pure (q _ _ x rfl)
      | none => exact wpAny_pure (q _ _ x rfl)
    · cases h
  · rename_i i hi
    split at h
    · rename_i hii
      subst hii
      split at h
      · rename_i f hf
        split at h
        · rename_i hfn
          obtain ⟨hfn, hsub⟩ := hfn
          obtain ⟨r', hr', rfl⟩ := Option.map_eq_some_iff.mp h
          unfold tryCompare
          refine wpAny_bind (ifBound_builtin I.X IA hi slot_object_ne.bind ?_)
          have sub : Looks (model prog w) s.heap (isInstance (.ref a) (.type "object")) true := IA.type.andThen (looks_subIn I.X hsub)
          refine wpAny_call (codeAny_call_builtin slot_object_ne.plain F.cmpEntry_ne ?_)
          refine check_slot (i := "object.__ne__") (self := .ref a) (rest := [vb]) (kw := []) F.cmpKind_ne F.cmpSplit_ne sub (F.cmpArgs_ne _ _) ?_
          unfold Builtin.«object.__ne__»
          refine wpAny_bind (wpAny_pure (a := (Value.ref a, [vb])) ?_)
          refine wpAny_bind (wpAny_cRoomFor hA.in1.units_lt ?_)
          refine wpAny_bind (ifBound_K I.X IA hf hfn (asTry_ok k ok hr' hA.in1.here I hO ra rb fun v s' x e => ?_))
          subst e
          cases r' with
          | some t => exact wpAny_bind (wpAny_truthy_bool (wpAny_pure (wpAny_pure (q _ _ x rfl))))
          | none => exact wpAny_pure (wpAny_pure (q _ _ x rfl))
        · cases h
      · cases h
    · cases h
  · cases h

include k ok in
theorem objCmp_ok : ObjCmpOk prog w K B n (objCmp K ops) := by
  intro op C fs C' gs d h A O s va vb hA I hO ra rb Q E q
  unfold objCmp at h
  split at h
  · rename_i hn
    obtain ⟨a, dx, es, n1, rfl, hne, h1, h2, h3⟩ := SelfAt.of ra
    obtain ⟨b, dy, es', n2, rfl, hne', h1', h2', h3'⟩ := SelfAt.of rb
    have IA : InstAt s.heap a (instObj C dx) C (some (dictOf es n1)) := ⟨h1, rfl, rfl, h2⟩
    have IB : InstAt s.heap b (instObj C' dy) C' (some (dictOf es' n2)) := ⟨h1', rfl, rfl, h2'⟩
    have tail : ∀ F : Sem Value, wpAny (model prog w) A (do
        match ← tryCompare (.ref a) (cmpInfo op).2.1 (.ref b) with
        | some v => pure v
        | x => match ← tryCompare (.ref b) (cmpInfo op).2.2 (.ref a) with
          | some v => pure v
          | x => match op with
            | .Eq => do rule "compare.eq-identity"; pure (.bool (← isSame (.ref a) (.ref b)))
            | .NotEq => do rule "compare.ne-identity"; pure (.bool (!(← isSame (.ref a) (.ref b))))
            | x => F) Q E s := by
      intro F
      split at h
      · rename_i t ht
        cases h
        exact wpAny_bind (try_ok k ok ht hA I hO ra rb fun x s' y e => by cases e; exact wpAny_pure (q _ _ y (.bool _)))
      · rename_i ht
        refine wpAny_bind (try_ok k ok ht hA I hO ra rb fun x s' y e => ?_)
        cases e
        split at h
        · rename_i t ht2
          cases h
          exact wpAny_bind (try_ok k ok ht2 hA (I.on k y) (hO.on y) (rb.on y) (ra.on y) fun x s'' z e => by cases e; exact wpAny_pure (q _ _ (y.tr z) (.bool _)))
        · rename_i ht2
          refine wpAny_bind (try_ok k ok ht2 hA (I.on k y) (hO.on y) (rb.on y) (ra.on y) fun x s'' z e => ?_)
          cases e
          split at h
          · cases h
          · rename_i hC
            have ga := z.keep _ _ (y.keep _ _ h1 (notTab_cls rfl (by intro q; cases q)) (by simp)) (notTab_cls rfl (by intro q; cases q)) (by simp)
            have gb := z.keep _ _ (y.keep _ _ h1' (notTab_cls rfl (by intro q; cases q)) (by simp)) (notTab_cls rfl (by intro q; cases q)) (by simp)
            have hab : a ≠ b := by
              rintro rfl
              rw [ga] at gb
              injection gb with gb
              injection gb with gb
              injection gb with gb
              exact hC gb
            split at h
            · cases h
              exact wpAny_bind (wpAny_rule (wpAny_bind (wpAny_isSame_ref_other hab ga gb (by intro q; cases q) (wpAny_pure (q _ _ (y.tr z) (.bool _))))))
            · cases h
              exact wpAny_bind (wpAny_rule (wpAny_bind (wpAny_isSame_ref_other hab ga gb (by intro q; cases q) (wpAny_pure (q _ _ (y.tr z) (.bool _))))))
            · cases h
        · cases h
      · cases h
    unfold richCompare
    simp only [oneThing_ref]
    refine wpAny_holding (wpAny_bind (wpAny_cRoomFor hA.units_lt ?_))
    refine wpAny_bind (IA.type.here (wpAny_bind (IB.type.here ?_)))
    split
    · rename_i hq
      have e : subIn K (.ref C') (.ref C) = some false := by
        rcases Bool.or_eq_true_iff.mp hn with e | e
        · rw [beq_iff_eq.mp e] at hq; simp at hq
        · exact beq_iff_eq.mp e
      refine wpAny_bind ((looks_subIn I.X e).here ?_)
      simp only [Bool.false_eq_true, if_false, Bool.not_false, if_true]
      exact tail _
    · refine wpAny_bind (wpAny_pure ?_)
      simp only [Bool.false_eq_true, if_false, Bool.not_false, if_true]
      exact tail _
  · cases h
end
end Mine
end
section
open PySem PySem.W PyProof.Rows
set_option maxRecDepth 100000
namespace Mine

noncomputable def strsOf : List D → Option (List Str)
  | [] => some []
  | .str x :: r => (strsOf r).map (x :: ·)
  | _ => none
theorem strsOf_ok {O : List Addr} {h : Heap} : ∀ {l : List D} {ys : List Str} {vs : List Value}, strsOf l = some ys → RepL O h vs l → StrsAre vs ys
  | [], ys, _, e, .nil => by cases e; exact .nil
  | d :: r, ys, _, e, .cons a b => by
    cases d <;> first | (cases e; done) | skip
    rename_i x
    unfold strsOf at e
    obtain ⟨zs, hz, rfl⟩ := Option.map_eq_some_iff.mp e
    cases a
    exact .cons _ _ (strsOf_ok hz b)
/-- identity, where it is plain -/
noncomputable def isD : D → D → Option Bool
  | .none, .none => some true
  | .bool p, .bool q => some (p == q)
  | .int _, .none => some false
  | .str _, .none => some false
  | .tup _, .none => some false
  | .list _, .none => some false
  | .bool _, .notImpl => some false
  | .notImpl, .notImpl => some true
  | _, _ => none
noncomputable def inD : D → D → Option Bool
  | .str x, .list l => (strsOf l).map fun ys => ys.any (· == x)
  | .str x, .tup l => (strsOf l).map fun ys => ys.any (· == x)
  | _, _ => none
noncomputable def cmpD (K : Frag) (ops : Ops) : CmpOp → D → D → Option D
  | .Is, a, b => (isD a b).map .bool
  | .IsNot, a, b => (isD a b).map fun t => .bool (!t)
  | .In, a, b => (inD a b).map .bool
  | .NotIn, a, b => (inD a b).map fun t => .bool (!t)
  | op, a, b => rcN (objCmp K ops) 8 op a b
noncomputable def truD : D → Option Bool
  | .none => some false
  | .bool b => some b
  | .int i => some (i != 0)
  | .str x => some ((x.length : Int) != 0)
  | .tup l => if l.length ≤ 100000 then some (!l.isEmpty) else none
  | .mtch .. => some true
  | _ => none

theorem noBool_match : typeLookup (.type "re.Match") "__bool__" = pure none := by rw [typeLookup_type, builtinLookup_eq_fast]; kernel_rfl
theorem noLen_match : typeLookup (.type "re.Match") "__len__" = pure none := by rw [typeLookup_type, builtinLookup_eq_fast]; kernel_rfl

section
variable {prog : Program} {w : World} {K : Frag} {B : Nat} (k : Kok K B) {n : Nat} {ops : Ops} (ok : OpsOk prog w K B n ops)
theorem truD_ok {a : D} {t : Bool} (h : truD a = some t) {A : Around} {O : List Addr} {s : Shared} {va : Value} (ra : Rep O s.heap va a) : GivesB prog w A (truthy va) s t := by
  unfold truD at h
  intro Q E q
  split at h
  · cases h; (first | obtain rfl := ra.inv | obtain ⟨_, rfl⟩ := ra.inv | obtain ⟨_, rfl, _⟩ := ra.inv); exact fun _ _ _ => q _ (.refl _ _)
  · cases h; (first | obtain rfl := ra.inv | obtain ⟨_, rfl⟩ := ra.inv | obtain ⟨_, rfl, _⟩ := ra.inv); exact wpAny_truthy_bool (q _ (.refl _ _))
  · cases h; (first | obtain rfl := ra.inv | obtain ⟨_, rfl⟩ := ra.inv | obtain ⟨_, rfl, _⟩ := ra.inv); exact wpAny_up (truthy_int fun u => q _ (.refl _ _))
  · cases h
    obtain ⟨_, rfl, hx⟩ := ra.inv
    exact SBL.truthy (Int.lt_of_le_of_lt (Int.ofNat_le.mpr hx) (by decide)) (q _ (.fresh s 2))
  · rename_i l
    split at h
    · rename_i hz
      cases h
      obtain ⟨t, vs, rfl, _, ht, rs⟩ := ra.tup_inv
      have e : (!(List.toArray vs).isEmpty) = !(List.isEmpty l) := by
        have := rs.length
        cases vs <;> cases rs <;> rfl
      refine truthy_tuple ht (by rw [List.size_toArray, rs.length]; omega) ?_
      rw [e]
      exact q _ (.fresh s 2)
    · cases h
  · cases h
    obtain ⟨_, _, _, _, _, _, _, _, _, rfl, ha, hsp, ho, hc, _⟩ := ra.inv
    · skip
      unfold truthy
      refine wpAny_bind ?_
      unfold callSpecial?
      refine wpAny_bind (wpAny_specialOf ⟨_, ho, hc⟩ noBool_match (wpAny_pure ?_))
      refine wpAny_bind (wpAny_specialOf ⟨_, ho, hc⟩ noLen_match ?_)
      exact wpAny_pure (q _ (.refl _ _))
  · cases h

theorem beq_bool (p p' : Bool) : (Value.bool p == Value.bool p') = (p == p') := by cases p <;> cases p' <;> rfl
theorem isD_ok {a b : D} {t : Bool} (h : isD a b = some t) {A : Around} {O : List Addr} {s : Shared} {va vb : Value} (ra : Rep O s.heap va a) (rb : Rep O s.heap vb b) : Gives prog w O A (compareOp .Is va vb) s (.bool t) ∧ Gives prog w O A (compareOp .IsNot va vb) s (.bool (!t)) := by
  have done : ∀ {t}, (∀ (Q : Bool → Shared → Prop) (E : Value → Shared → Prop), Q t s → wpAny (model prog w) A (isSame va vb) Q E s) → Gives prog w O A (compareOp .Is va vb) s (.bool t) ∧ Gives prog w O A (compareOp .IsNot va vb) s (.bool (!t)) := fun h =>
    ⟨fun Q E q => wpAny_bind (h _ _ (wpAny_pure (q _ _ (.refl _ _) (.bool _)))), fun Q E q => wpAny_bind (h _ _ (wpAny_pure (q _ _ (.refl _ _) (.bool _))))⟩
  unfold isD at h
  split at h <;> cases h <;> (first | obtain rfl := ra.inv | obtain ⟨_, rfl⟩ := ra.inv | obtain ⟨_, rfl, _⟩ := ra.inv | obtain ⟨_, _, _, _, rfl, _⟩ := ra.inv) <;> (first | obtain rfl := rb.inv | obtain ⟨_, rfl⟩ := rb.inv | obtain ⟨_, rfl, _⟩ := rb.inv | obtain ⟨_, _, _, _, rfl, _⟩ := rb.inv) <;> refine done fun Q E q => ?_ <;> rw [isSame_plain rfl] <;> first | exact wpAny_pure q | (rename_i p p'; rw [beq_bool p p']; exact wpAny_pure q)

theorem inD_ok {a b : D} {t : Bool} (h : inD a b = some t) {A : Around} {O : List Addr} {s : Shared} {va vb : Value} (ra : Rep O s.heap va a) (rb : Rep O s.heap vb b) : Gives prog w O A (compareOp .In va vb) s (.bool t) ∧ Gives prog w O A (compareOp .NotIn va vb) s (.bool (!t)) := by
  unfold inD at h
  split at h
  · obtain ⟨ys, hy, rfl⟩ := Option.map_eq_some_iff.mp h
    (first | obtain rfl := ra.inv | obtain ⟨_, rfl⟩ := ra.inv | obtain ⟨_, rfl, _⟩ := ra.inv)
    obtain ⟨l, vs, rfl, _, hl, rs⟩ := rb.list_inv
    exact ⟨fun Q E q => wpAny_up (in_list_strs hl (strsOf_ok hy rs) fun u => q _ _ (.refl _ _) (.bool _)), fun Q E q => wpAny_up (notin_list_strs hl (strsOf_ok hy rs) fun u => q _ _ (.refl _ _) (.bool _))⟩
  · obtain ⟨ys, hy, rfl⟩ := Option.map_eq_some_iff.mp h
    (first | obtain rfl := ra.inv | obtain ⟨_, rfl⟩ := ra.inv | obtain ⟨_, rfl, _⟩ := ra.inv)
    obtain ⟨l, vs, rfl, _, hl, rs⟩ := rb.tup_inv
    exact ⟨fun Q E q => wpAny_up (in_tuple_strs hl (by simpa using strsOf_ok hy rs) fun u => q _ _ (.refl _ _) (.bool _)), fun Q E q => wpAny_up (notin_tuple_strs hl (by simpa using strsOf_ok hy rs) fun u => q _ _ (.refl _ _) (.bool _))⟩
  · cases h

include k ok in
theorem cmpD_ok {op : CmpOp} {a b d : D} (h : cmpD K ops op a b = some d) {A : Around} {O : List Addr} {s : Shared} {va vb : Value} (hA : Room A (n + 1)) (I : Inv K B s) (hO : OLow O s) (ra : Rep O s.heap va a) (rb : Rep O s.heap vb b) : Gives prog w O A (compareOp op va vb) s d := by
  have rc := @rc_ok prog w K B k n _ (objCmp_ok k ok) 8
  have hR : Rooms A n 8 := hA.rooms.less (by decide)
  unfold cmpD at h
  split at h
  · obtain ⟨t, ht, rfl⟩ := Option.map_eq_some_iff.mp h; exact (isD_ok ht ra rb).1
  · obtain ⟨t, ht, rfl⟩ := Option.map_eq_some_iff.mp h; exact (isD_ok ht ra rb).2
  · obtain ⟨t, ht, rfl⟩ := Option.map_eq_some_iff.mp h; exact (inD_ok ht ra rb).1
  · obtain ⟨t, ht, rfl⟩ := Option.map_eq_some_iff.mp h; exact (inD_ok ht ra rb).2
  · rename_i h1 h2 h3 h4
    have z := rc h hR I hO ra rb
    cases op <;> first | exact z | exact absurd rfl h1 | exact absurd rfl h2 | exact absurd rfl h3 | exact absurd rfl h4
end
end Mine
end
section
open PySem PySem.W PyProof.Rows
set_option maxRecDepth 100000
namespace Mine

noncomputable def clsD (v : Value) : D := match valD v with
  | some d => d
  | none => .glob v
theorem clsD_ok (O : List Addr) (h : Heap) (v : Value) : Rep O h v (clsD v) := by
  unfold clsD
  split
  · rename_i e; exact valD_ok e
  · exact .glob _
noncomputable def notGlob : D → Bool
  | .glob _ => false
  | _ => true
theorem rep_handed {O : List Addr} {h : Heap} {v : Value} {d : D} (r : Rep O h v d) (hg : notGlob d = true) : handedIn v = true := by
  cases r <;> first | rfl | cases hg

theorem isStr_eq (n x : Str) (t : Tok) : (Value.str n t).isStr x = (n == x) := rfl
theorem RepF.look {O : List Addr} {h : Heap} (x : Str) : ∀ {es : List DictEntry} {fs : List (Str × D)}, RepF O h es fs → (es.find? (·.key.isStr x) = none ∧ fs.lookup x = none) ∨ ∃ e d, es.find? (·.key.isStr x) = some e ∧ fs.lookup x = some d ∧ Rep O h e.val d
  | _, _, .nil => .inl ⟨rfl, rfl⟩
  | _, _, .cons (n := m) r rs => by
    rw [List.find?_cons, List.lookup_cons]
    by_cases e : m = x
    · subst e
      rw [isStr_eq, beq_self_eq_true]
      exact .inr ⟨_, _, rfl, rfl, r⟩
    · rw [isStr_eq, beq_eq_false_iff_ne.mpr e, beq_eq_false_iff_ne.mpr (fun q => e q.symm)]
      exact rs.look x
theorem RepF.lookIn {O : List Addr} {h : Heap} {es : List DictEntry} {n : Nat} {fs : List (Str × D)} (r : RepF O h es fs) (x : Str) : (PySem.W.lookIn x (dictOf es n) = some none ∧ fs.lookup x = none) ∨ ∃ v d, PySem.W.lookIn x (dictOf es n) = some (some v) ∧ fs.lookup x = some d ∧ Rep O h v d := by
  unfold PySem.W.lookIn dictOf
  dsimp only
  rcases r.look x with ⟨a, b⟩ | ⟨e, d, a, b, q⟩
  · simp only [a, r.strKeys]
    exact .inl ⟨rfl, b⟩
  · simp only [a]
    exact .inr ⟨_, _, rfl, b, q⟩

noncomputable def clsAttr (K : Frag) (C : Addr) (x : Str) : Option D := match typeIn K (.ref C) with
  | some mc => if readsIn K C mc then match findCls K (.ref C) mc x with
    | some (.val v) => if handedIn v then some (clsD v) else none
    | _ => none
    else none
  | none => none
noncomputable def instAttr (K : Frag) (C : Addr) (fs : List (Str × D)) (x : Str) : Option D :=
  if x = "__class__" then (if plainGet K C "__class__" = true ∧ hasDictIn K C = true ∧ findIn K (.ref C) "__class__" = some (some (.builtin "object.__class__")) ∧ specialIn K (.builtin "object.__class__") "__get__" = some (some (.builtin "getset_descriptor.__get__")) ∧ takesIn K (.builtin "object.__class__") = some true ∧ mroIn K C (.type "object") = some true then some (.glob (.ref C)) else none)
  else if findIn K (.ref C) "__getattribute__" = some (some (.builtin "object.__getattribute__")) ∧ hasDictIn K C = true then (match findIn K (.ref C) x with
    | some attr => (match fs.lookup x with
      | some d => if noGet K attr && notGlob d then some d else none
      | none => (match attr with
        | some a => if specialIn K a "__get__" = some none ∧ handedIn a = true ∧ copiedNames.contains x = false then some (clsD a) else none
        | none => none))
    | none => none)
  else none
noncomputable def attrD (K : Frag) : Rcv → Str → Option D
  | .dat (.obj C fs), x => instAttr K C fs x
  | .self C fs, x => instAttr K C fs x
  | .dat (.glob (.ref C)), x => clsAttr K C x
  | _, _ => none

section
variable {prog : Program} {w : World} {K : Frag} {B : Nat}
theorem instAttr_ok {C : Addr} {fs : List (Str × D)} {x : Str} {d : D} (h : instAttr K C fs x = some d) {A : Around} {O : List Addr} {s : Shared} {v : Value} (I : Inv K B s) (r : SelfAt O s.heap v C fs) : Gives prog w O A (getAttr v x true) s d := by
  obtain ⟨a, dx, es, n, rfl, hne, h1, h2, rf⟩ := r
  have IA : InstAt s.heap a (instObj C dx) C (some (dictOf es n)) := ⟨h1, rfl, rfl, h2⟩
  unfold instAttr at h
  intro Q E q
  split at h
  · rename_i hx
    subst hx
    split at h
    · rename_i hc
      obtain ⟨hg, hh, ha, hn, ht, hm⟩ := hc
      cases h
      exact get_bind I.X IA (plainGet_of hg).1 (findObj_data (by obtain ⟨cd, hc, _⟩ := any_some hh; rw [hc]; rfl) ha hn ht) (plainGet_of hg).2
        (wpAny_call (class_get (s := { s with toks := s.toks + 1 }) (ox := instObj C dx) (od := some (dictOf es n)) I.X IA hm (handed_on rfl (q _ _ (.fresh s 1) (.glob _)))))
    · cases h
  · split at h
    · rename_i hc
      split at h
      · rename_i attr hattr
        rcases rf.lookIn (n := n) x with ⟨l1, l2⟩ | ⟨v, d', l1, l2, rv⟩
        · rw [l2] at h
          dsimp only at h
          split at h
          · rename_i av
            split at h
            · rename_i hc2
              cases h
              exact get_value I.X IA hc.1 (findObj_cls hc.2 hattr hc2.1 hc2.2.1 hc2.2.2 l1) hc2.2.1 (q _ _ (.fresh s 1) (clsD_ok _ _ _))
            · cases h
          · cases h
        · rw [l2] at h
          dsimp only at h
          split at h
          · rename_i hc2
            cases h
            obtain ⟨hng, hgl⟩ := Bool.and_eq_true_iff.mp hc2
            exact get_value I.X IA hc.1 (findObj_own hc.2 hattr hng l1) (rep_handed rv hgl) (q _ _ (.fresh s 1) (rv.on (.fresh s 1)))
          · cases h
      · cases h
    · cases h
theorem attrD_ok {r : Rcv} {x : Str} {d : D} (h : attrD K r x = some d) {A : Around} {O : List Addr} {s : Shared} {v : Value} (I : Inv K B s) (rr : RRep O s.heap v r) : Gives prog w O A (getAttr v x true) s d := by
  unfold attrD at h
  split at h
  · exact instAttr_ok h I (SelfAt.of rr)
  · exact instAttr_ok h I rr
  · rename_i C
    have : v = .ref C := by cases rr; rfl
    subst this
    unfold clsAttr at h
    split at h
    · rename_i mc hm
      split at h
      · rename_i hr
        split at h
        · rename_i u hf
          split at h
          · rename_i hh
            cases h
            exact fun Q E q => cls_value I.X hr hf hh (q _ _ (.fresh s 1) (clsD_ok _ _ _))
          · cases h
        · cases h
      · cases h
    · cases h
  · cases h
end
end Mine
end
section
open PySem PySem.W PyProof.Rows
set_option maxRecDepth 100000
namespace Mine

/-- what stands at a place -/
noncomputable def itemD : D → D → Option D
  | .tup l, .int i => if 0 ≤ i ∧ i < 2 ^ 62 then l[i.toNat]? else none
  | .list l, .int i => if 0 ≤ i ∧ i < 2 ^ 62 then l[i.toNat]? else none
  | .str x, .int i => if 0 ≤ i ∧ i < 2 ^ 62 then ((seqIndex? i x.length).bind (x.cps[·]?)).map fun c => .str ⟨#[c]⟩ else none
  | _, _ => none

section
variable {prog : Program} {w : World} {K : Frag} {B : Nat}
theorem itemD_ok {a b d : D} (h : itemD a b = some d) {A : Around} {O : List Addr} {s : Shared} {va vb : Value} (value slice : Expr) (hs : isSlice slice = false) (ra : Rep O s.heap va a) (rb : Rep O s.heap vb b) : Gives prog w O A (subscriptTail value slice va vb) s d := by
  have sub : ∀ o i, subscripted slice false o i = operate [o, i] (getItem o i) := fun o i => by cases slice <;> first | rfl | cases hs
  unfold itemD at h
  intro Q E q
  split at h
  · split at h
    · rename_i hi
      (first | obtain rfl := rb.inv | obtain ⟨_, rfl⟩ := rb.inv | obtain ⟨_, rfl, _⟩ := rb.inv)
      obtain ⟨t, vs, rfl, _, ht, rs⟩ := ra.tup_inv
      obtain ⟨v, hv, rv⟩ := rs.get h
      have hlt : Int.toNat _ < vs.length := (List.getElem?_eq_some_iff.mp hv).1
      refine item_tupleT (j := Int.toNat _) ht (by omega) (by omega) ?_ hv (q _ _ (.refl _ _) rv) (sub _ _)
      unfold seqIndex?
      have n0 : ¬ (_ : Int) < 0 := Int.not_lt.mpr hi.1
      simp only [if_neg n0]
      rw [if_pos]
      simp only [Bool.and_eq_true, decide_eq_true_eq]
      omega
    · cases h
  · split at h
    · rename_i hi
      (first | obtain rfl := rb.inv | obtain ⟨_, rfl⟩ := rb.inv | obtain ⟨_, rfl, _⟩ := rb.inv)
      obtain ⟨t, vs, rfl, _, ht, rs⟩ := ra.list_inv
      obtain ⟨v, hv, rv⟩ := rs.get h
      exact tail_any ht.typeIs slot_list_getitem.lookup (wpAny_getItem_list ht hi.1 (by omega) (by simpa using hv) (q _ _ (.refl _ _) rv)) (sub _ _)
    · cases h
  · split at h
    · rename_i hi
      obtain ⟨c, hc, rfl⟩ := Option.map_eq_some_iff.mp h
      (first | obtain rfl := ra.inv | obtain ⟨_, rfl⟩ := ra.inv | obtain ⟨_, rfl, _⟩ := ra.inv); (first | obtain rfl := rb.inv | obtain ⟨_, rfl⟩ := rb.inv | obtain ⟨_, rfl, _⟩ := rb.inv)
      refine tail_any (typeIs_str s _ _) F.slot_str_getitem.lookup (P.getItem_str ?_ hc (q _ _ (.fresh s 1) (.str _ _ (by show 1 ≤ sizeLine; decide)))) (sub _ _)
      simp only [Bool.or_eq_false_iff, decide_eq_false_iff_not]
      omega
    · cases h
  · cases h
end
end Mine
end
section
open PySem PySem.W PyProof.Rows
set_option maxRecDepth 100000
namespace Mine

noncomputable def selfBound : Option D → Bool
  | some (.glob .none) => true
  | _ => false
/-- the run of a class's __init__: the fields it leaves -/
noncomputable def runInit (K : Frag) (ownv : Addr → Option Str) (ops : Ops) (C : Addr) (args : List D) (kws : List (Str × D)) : Option D :=
  if makesIn K C then match findIn K (.ref C) "__init__" with
  | some (some (.ref f)) => if typeIn K (.ref f) = some (.type "function") then match fnAt K f with
    | some fd => if fnGood K fd then match fd.body, dfl K fd.defaults, fd.params.args with
      | .stmts body, some dd, p0 :: _ => match bindL (fd.params.args.map (·.arg)) (.glob .none :: args) kws dd with
        | some b => if (b.all fun y => fd.scope.names.lookup y.1 == some .local) && selfBound (b.reverse.lookup p0.arg) && args.all notGlob && kws.all (fun y => notGlob y.2) && dd.all notGlob && fd.scope.names.lookup p0.arg == some .local && b.all (fun y => y.1 == p0.arg || notGlob y.2) then
          match exs ⟨fd.scope, globIn K, ops, ownv f, settable K, 40⟩ 60 ⟨(b.filter (·.1 != p0.arg)).reverse, .inst p0.arg C []⟩ body with
          | some (.ret .none, ρ) => (match ρ.own with | .inst x C' fs => if C' = C then some (.obj C fs) else none | _ => none)
          | some (.next, ρ) => (match ρ.own with | .inst x C' fs => if C' = C then some (.obj C fs) else none | _ => none)
          | _ => none
          else none
        | none => none
      | _, _, _ => none
      else none
    | none => none
    else none
  | _ => none
  else none

section
variable {R : Value → D → Prop}
theorem RepB.filt {p : Str → Bool} : ∀ {vs : List (Str × Value)} {ds : List (Str × D)}, RepB R vs ds → RepB R (vs.filter fun y => p y.1) (ds.filter fun y => p y.1)
  | _, _, .nil => .nil
  | _, _, .cons (n := n) a b => by
    rw [List.filter_cons, List.filter_cons]
    cases p n with
    | true => exact .cons a b.filt
    | false => exact b.filt
theorem RepB.mapR {R' : Value → D → Prop} : ∀ {vs : List (Str × Value)} {ds : List (Str × D)}, RepB R vs ds → (∀ y ∈ ds, ∀ v, R v y.2 → R' v y.2) → RepB R' vs ds
  | _, _, .nil, _ => .nil
  | _, _, .cons a b, k => .cons (k _ (.head _) _ a) (b.mapR fun y hy => k y (.tail _ hy))
end
theorem lookup_filter {x y : Str} {α : Type} : ∀ {l : List (Str × α)}, y ≠ x → (l.filter fun z => z.1 != x).lookup y = l.lookup y
  | [], _ => rfl
  | (z, e) :: r, h => by
    rw [List.filter_cons]
    by_cases hz : z = x
    · subst hz
      simp only [bne_self_eq_false, Bool.false_eq_true, if_false]
      rw [lookup_filter h, List.lookup_cons, beq_eq_false_iff_ne.mpr h]
    · rw [if_pos (by simpa using hz), List.lookup_cons, List.lookup_cons, lookup_filter h]

theorem lookup_rev_filter {x y : Str} {α : Type} {l : List (Str × α)} (h : y ≠ x) : ((l.filter fun z => z.1 != x).reverse).lookup y = l.reverse.lookup y := by
  rw [← List.filter_reverse]
  exact lookup_filter h
theorem lookup_filter_self {x : Str} {α : Type} : ∀ {l : List (Str × α)}, (l.filter fun z => z.1 != x).lookup x = none
  | [] => rfl
  | (z, e) :: r => by
    rw [List.filter_cons]
    by_cases hz : z = x
    · subst hz
      simp only [bne_self_eq_false, Bool.false_eq_true, if_false]
      exact lookup_filter_self
    · rw [if_pos (by simpa using hz), List.lookup_cons, beq_eq_false_iff_ne.mpr (fun e => hz e.symm)]
      exact lookup_filter_self
theorem lookup_rev_filter_self {x : Str} {α : Type} {l : List (Str × α)} : ((l.filter fun z => z.1 != x).reverse).lookup x = none := by
  rw [← List.filter_reverse]
  exact lookup_filter_self
theorem lookup_mem {x : Str} {α : Type} {v : α} : ∀ {l : List (Str × α)}, l.lookup x = some v → (x, v) ∈ l
  | [], h => by cases h
  | (z, e) :: r, h => by
    rw [List.lookup_cons] at h
    by_cases hz : x = z
    · subst hz
      simp only [beq_self_eq_true] at h
      cases h
      exact .head _
    · rw [beq_eq_false_iff_ne.mpr hz] at h
      exact .tail _ (lookup_mem h)
theorem lookup_none {x : Str} {α : Type} : ∀ {l : List (Str × α)}, l.lookup x = none → ∀ v, (x, v) ∉ l
  | [], h, v, m => by cases m
  | (z, e) :: r, h, v, m => by
    rw [List.lookup_cons] at h
    by_cases hz : x = z
    · subst hz
      simp only [beq_self_eq_true] at h
      cases h
    · rw [beq_eq_false_iff_ne.mpr hz] at h
      rcases List.mem_cons.mp m with q | q
      · cases q; exact hz rfl
      · exact lookup_none h v q
theorem lookup_rev_some {x : Str} {α : Type} {v : α} {l : List (Str × α)} (h : l.lookup x = some v) : l.reverse.lookup x ≠ none := fun e =>
  lookup_none e v (List.mem_reverse.mpr (lookup_mem h))
noncomputable def retVal : Flow → Value
  | .ret v => v
  | _ => .none
theorem flow_none {O : List Addr} {h : Heap} {flv : Flow} {fl : PFlow} (hfl : fl = .next ∨ fl = .ret .none) (fi : FlowIs O h flv fl) : retVal flv = Value.none := by
  rcases hfl with rfl | rfl
  · cases flv <;> first | rfl | exact fi.elim
  · cases flv <;> first | rfl | exact fi.elim | (rename_i v; have r : Rep O h v .none := fi; exact r.inv)
theorem weight_tc (C : Addr) (rest : List Value) (kw : List (Str × Value)) : (Code.builtin "type.__call__" ⟨.ref C :: rest, kw⟩).weight = 1 := by kernel_rfl
theorem units_tc (C : Addr) (rest : List Value) (kw : List (Str × Value)) : (Code.builtin "type.__call__" ⟨.ref C :: rest, kw⟩).cUnits = 1 := by kernel_rfl
theorem envs_tc (C : Addr) (rest : List Value) (kw : List (Str × Value)) : (Code.builtin "type.__call__" ⟨.ref C :: rest, kw⟩).envs = [] := by kernel_rfl
theorem guards_tc (C : Addr) (rest : List Value) (kw : List (Str × Value)) : (Code.builtin "type.__call__" ⟨.ref C :: rest, kw⟩).guards = [] := by kernel_rfl
theorem Room.tc {A : Around} {n : Nat} (hA : Room A (n + 1)) {C : Addr} {vs : List Value} {kw : List (Str × Value)} {env : Env} : Room ((A.under (.builtin "type.__call__" ⟨.ref C :: vs, kw⟩)).deeper env) n := by
  obtain ⟨r1, r2, r3, r4, l, r5⟩ := hA
  refine ⟨?_, ?_, r3, ?_, env :: l, ?_⟩
  · show A.depth + Code.weight _ + 1 + 8 * n < _; rw [weight_tc]; omega
  · show A.units + Code.cUnits _ + 3 + 16 * n < _; rw [units_tc]; omega
  · have : (A.under (.builtin "type.__call__" ⟨.ref C :: vs, kw⟩)).guards = pushGuards (Code.guards (.builtin "type.__call__" ⟨.ref C :: vs, kw⟩)) A.guards := rfl
    rw [guards_tc, r4] at this
    exact this
  · have : (A.under (.builtin "type.__call__" ⟨.ref C :: vs, kw⟩)).frames = pushEnvs (Code.envs (.builtin "type.__call__" ⟨.ref C :: vs, kw⟩)) A.frames := rfl
    rw [envs_tc, r5] at this
    show Option.map _ (A.under _).frames = _
    rw [this]
    rfl
theorem RepL.allG {O : List Addr} {h : Heap} {x : Addr} : ∀ {vs : List Value} {ds : List D}, RepL O h vs ds → ds.all notGlob = true → AllR (fun v d => (notGlob d = true ∧ Rep O h v d) ∨ (v = .ref x ∧ d = .glob .none)) vs ds
  | _, _, .nil, _ => .nil
  | _, _, .cons a b, e => by
    rw [List.all_cons, Bool.and_eq_true] at e
    exact .cons (.inl ⟨e.1, a⟩) (b.allG e.2)

section
variable {prog : Program} {w : World} {K : Frag} {B : Nat} (k : Kok K B) {n : Nat} {ops : Ops} (ok : OpsOk prog w K B n ops) {A : Around} (hA : Room A (n + 1))
theorem keeper_cls {C : Addr} (h : makesIn K C = true) : keepIn K (.ref C) = true := by
  unfold makesIn at h
  unfold keepIn
  split at h
  · rename_i oc od cd sl ho
    simp only [Bool.and_eq_true] at h
    simp only [ho]
    exact h.1.2
  · cases h
theorem keeper_fn {f : Addr} {fd : FuncData} (h : fnAt K f = some fd) : keepIn K (.ref f) = true := by
  obtain ⟨oc, od, osl, hl⟩ := fnAt_get h
  unfold keepIn
  simp only [hl]

include k ok hA in
theorem make_ok {ownv : Addr → Option Str} {C : Addr} {args : List D} {kws : List (Str × D)} {d : D} (h : runInit K ownv ops C args kws = some d) {O : List Addr} {s : Shared} (I : Inv K B s) (hO : OLow O s) {vs kv : List Value} (ra : RepL O s.heap vs args) (rk : RepL O s.heap kv (kws.map (·.2))) :
    Gives prog w O A (call (.ref C) vs ((kws.map (·.1)).zip kv)) s d := by
  intro Q E q
  unfold runInit at h
  split at h
  · rename_i hm
    split at h
    · rename_i f hi
      split at h
      · rename_i hft
        split at h
        · rename_i fd hf
          obtain ⟨oc, od, osl, hl⟩ := fnAt_get hf
          split at h
          · rename_i hgood
            unfold fnGood at hgood
            simp only [Bool.and_eq_true, beq_iff_eq, Bool.not_eq_true'] at hgood
            obtain ⟨⟨⟨⟨⟨⟨⟨⟨hp, hcd⟩, hgl⟩, hbl⟩, hco⟩, hgen⟩, hk⟩, hcell⟩, hct⟩ := hgood
            split at h
            · rename_i body dd p0 prest hbody hdd hpar
              split at h
              · rename_i b hb
                split at h
                · rename_i hloc
                  simp only [Bool.and_eq_true, beq_iff_eq] at hloc
                  obtain ⟨⟨⟨⟨⟨⟨hloc, hself⟩, hga⟩, hgk⟩, hgd⟩, hsl⟩, hbg⟩ := hloc
                  have hself' : b.reverse.lookup p0.arg = some (.glob .none) := by
                    unfold selfBound at hself
                    split at hself
                    · rename_i e; exact e
                    · cases hself
                  obtain ⟨hh, g, dr, tk, os⟩ := s
                  obtain ⟨X, lim, tok, base, tabsI, glob⟩ := id I
                  let s : Shared := ⟨hh, g, dr, tk, os⟩
                  let x : Addr := hh.objs.size + 1
                  let dx : Addr := hh.objs.size
                  let h2 : Heap := (hh.push emptyDict).push (instObj C hh.objs.size)
                  let s2 : Shared := ⟨h2, g, dr, tk, os⟩
                  have P1 : Stp [] s ⟨hh.push emptyDict, g, dr, tk, os⟩ := .push ..
                  have P2 : Stp [] (⟨hh.push emptyDict, g, dr, tk, os⟩ : Shared) s2 := .push ..
                  have P : Stp [] s s2 := P1.tr P2
                  have gx : h2.get? x = some (instObj C dx) := by
                    have e : ((hh.push emptyDict).push (instObj C dx)).get? (hh.push emptyDict).objs.size = some (instObj C dx) := Heap.get?_push_size _ rfl
                    rwa [Heap.size_push] at e
                  have gd : h2.get? dx = some (dictOf [] 0) := Heap.get?_push_of_some _ (Heap.get?_push_size _ rfl)
                  have hz2 : h2.objs.size = hh.objs.size + 2 := by
                    show ((hh.push emptyDict).push _).objs.size = _
                    rw [Heap.size_push, Heap.size_push]
                  refine wpAny_call (make_core (makes_of X hm) (looks_findIn X hi) (fun self => bind_fn X self hft) (.inl rfl) ?_)
                  let O1 : List Addr := x :: dx :: O
                  have memO1 : ∀ b, b ∈ O1 → hh.objs.size ≤ b ∨ b ∈ O := fun b hb => by
                    rcases List.mem_cons.mp hb with q | hb
                    · exact .inl (by rw [q]; exact Nat.le_succ _)
                    · rcases List.mem_cons.mp hb with q | hb
                      · exact .inl (by rw [q]; exact Nat.le_refl _)
                      · exact .inr hb
                  have sub1 : ∀ b o, b ∈ O1 → hh.get? b = some o → b ∈ O := fun b o hb e => (memO1 b hb).elim (fun q => absurd (Heap.lt_size e) (Nat.not_lt.mpr q)) id
                  let RR : Value → D → Prop := fun v d => (notGlob d = true ∧ Rep O1 h2 v d) ∨ (v = .ref x ∧ d = .glob .none)
                  have bind : ∃ bv, BindsTo s2 fd ⟨.ref x :: vs, (kws.map (·.1)).zip kv⟩ bv ∧ RepB RR bv b := by
                    have a1 : AllR RR (.ref x :: vs) (.glob .none :: args) := .cons (.inr ⟨rfl, rfl⟩) (((ra.keep (O' := O1) (fun _ _ e _ _ => e) sub1).on P).allG hga)
                    have a2 : RepB RR ((kws.map (·.1)).zip kv) kws := RepB.kw (((rk.keep (O' := O1) (fun _ _ e _ _ => e) sub1).on P).allG (by rw [List.all_map]; exact hgk))
                    unfold dfl at hdd
                    split at hdd
                    · rename_i hd0
                      cases hdd
                      obtain ⟨bv, h1, h2⟩ := bindL_rep a1 a2 .nil hb
                      obtain ⟨kk, e1, e2⟩ := bindArgs_eq (fd := fd) (args := ⟨.ref x :: vs, (kws.map (·.1)).zip kv⟩) (items := none) hp h1
                      refine ⟨bv, BindsTo.of_eq ?_, h2⟩
                      rw [e1, hd0, ← e2]
                      rfl
                    · rename_i T hd0
                      split at hdd
                      · rename_i oc' od' items nn osl' hT
                        obtain ⟨bv, h1, h2⟩ := bindL_rep a1 a2 ((valsD_ok (O := O1) (h := h2) hdd).allG hgd) hb
                        obtain ⟨kk, e1, e2⟩ := bindArgs_eq (fd := fd) (args := ⟨.ref x :: vs, (kws.map (·.1)).zip kv⟩) (items := some items) hp h1
                        exact ⟨bv, BindsTo.of_defaults hd0 ((I.on k P).X _ _ hT) rfl e1 e2, h2⟩
                      · cases hdd
                    · cases hdd
                  obtain ⟨bv, hbind, hrep⟩ := bind
                  have I2 : Inv K B s2 := I.on k P
                  refine codeAny_call_def (s := s2) (hroom := by
                    show A.depth + Code.weight _ < _
                    rw [weight_tc]
                    have := hA.depth
                    omega) (I2.X _ _ hl) rfl I2.lim (codeRec_of I2.X hcd) hbody hbind (fun y hy => ?_) (hrep.local hloc) (fun h₀ hns hk₀ => ?_) hco hgen hk
                  · have := List.all_eq_true.mp hcell y hy
                    simpa using this
                  · have hLs : s2.heap.objs.size < h₀.objs.size := by
                      obtain ⟨o, _, _, e, _⟩ := hns
                      exact Heap.lt_size e
                    have st : Stp [] s2 { s2 with heap := h₀, toks := s2.toks + bv.length } := .grow (Nat.le_of_lt hLs) hk₀ (Nat.le_add_right _ _)
                    have inv : Inv K B { s2 with heap := h₀, toks := s2.toks + bv.length } := I2.on k st
                    have hA' : Room ((A.under (.builtin "type.__call__" ⟨.ref C :: vs, (kws.map (·.1)).zip kv⟩)).deeper (callEnv fd s2.heap.objs.size f)) n := hA.tc
                    have he : EnvOk (callEnv fd s2.heap.objs.size f) s2.heap.objs.size := ⟨hk, hgl, hbl, rfl⟩
                    let L : Addr := s2.heap.objs.size
                    have hxv : x = hh.objs.size + 1 := rfl
                    have hdv : dx = hh.objs.size := rfl
                    have hL2 : L = hh.objs.size + 2 := hz2
                    have sub2 : ∀ b o, b ∈ L :: O1 → h2.get? b = some o → b ∈ O1 := fun b o hb e => (List.mem_cons.mp hb).elim (fun q => absurd (Heap.lt_size e) (by rw [q]; exact Nat.lt_irrefl _)) id
                    have wid : ∀ {v d}, Rep O1 h2 v d → Rep (L :: O1) h₀ v d := fun r => (r.keep (O' := L :: O1) (fun _ _ e _ _ => e) sub2).on st
                    have sto : St K B (L :: O1) [L, dx, x] hh.objs.size ⟨(b.filter (·.1 != p0.arg)).reverse, .inst p0.arg C []⟩ L { s2 with heap := h₀, toks := s2.toks + bv.length } := by
                      refine ⟨inv, ⟨⟨_, hns, fun y d' e => ?_, ?_⟩, .head _, fun a ha => ?_⟩, base⟩
                      · have e' : ((b.filter (·.1 != p0.arg)).reverse).lookup y = some d' := e
                        have hy : y ≠ p0.arg := by
                          rintro rfl
                          rw [lookup_rev_filter_self] at e'
                          cases e'
                        rw [lookup_rev_filter hy] at e'
                        rcases hrep.rev.look y with ⟨_, z⟩ | ⟨v, d2, z1, z2, r⟩
                        · rw [z] at e'; cases e'
                        · rw [z2] at e'; cases e'
                          rcases r with ⟨_, r⟩ | ⟨_, rfl⟩
                          · exact ⟨v, z1, wid r⟩
                          · have hmem := lookup_mem z2
                            have := List.all_eq_true.mp hbg _ (List.mem_reverse.mp hmem)
                            rw [Bool.or_eq_true, beq_iff_eq] at this
                            exact absurd (this.resolve_left hy) (by simp [notGlob])
                      · refine ⟨x, dx, [], 0, ?_, rfl, .tail _ (.head _), ?_, ?_, hk₀ _ _ gx, hk₀ _ _ gd, .nil⟩
                        · rcases hrep.rev.look p0.arg with ⟨_, z⟩ | ⟨v, d2, z1, z2, r⟩
                          · rw [hself'] at z; cases z
                          · rw [hself'] at z2
                            cases z2
                            rcases r with ⟨r, _⟩ | ⟨r, _⟩
                            · cases r
                            · rw [r] at z1; exact z1
                        · exact Nat.ne_of_lt (Nat.lt_of_lt_of_eq (Nat.lt_add_of_pos_right (by decide)) hL2.symm)
                        · exact Nat.succ_ne_self _
                      · show a ∈ L :: O1 ∧ hh.objs.size ≤ a
                        rcases List.mem_cons.mp ha with q | ha
                        · exact ⟨q ▸ .head _, by rw [q]; exact Nat.le_trans (Nat.le_add_right _ 2) (Nat.le_of_eq hL2.symm)⟩
                        · rcases List.mem_cons.mp ha with q | ha
                          · exact ⟨q ▸ .tail _ (.tail _ (.head _)), by rw [q]; exact Nat.le_refl _⟩
                          · exact ⟨(List.mem_singleton.mp ha) ▸ .tail _ (.head _), by rw [List.mem_singleton.mp ha]; exact Nat.le_succ _⟩
                    have low : OLow (L :: O1) { s2 with heap := h₀, toks := s2.toks + bv.length } := fun a ha => by
                      have hlt : h2.objs.size < h₀.objs.size := hLs
                      show a < h₀.objs.size
                      rcases List.mem_cons.mp ha with q | ha
                      · rw [q]; exact hLs
                      · rcases List.mem_cons.mp ha with q | ha
                        · rw [q]; exact Nat.lt_trans (Heap.lt_size gx) hlt
                        · rcases List.mem_cons.mp ha with q | ha
                          · rw [q]; exact Nat.lt_trans (Heap.lt_size gd) hlt
                          · exact Nat.lt_of_lt_of_le (hO a ha) (Nat.le_trans P.size (Nat.le_of_lt hlt))
                    have h00 : ∀ a ∈ O, a ∈ L :: O1 := fun a ha => .tail _ (.tail _ (.tail _ ha))
                    have run : ∀ {fl ρ' xn fs}, exs ⟨fd.scope, globIn K, ops, ownv f, settable K, 40⟩ 60 ⟨(b.filter (·.1 != p0.arg)).reverse, .inst p0.arg C []⟩ body = some (fl, ρ') → ρ'.own = .inst xn C fs → (fl = .next ∨ fl = .ret .none) → ∀ (Q' : Flow → Shared → Prop) (E' : Value → Shared → Prop), (∀ flv s', retVal flv = Value.none → Stp [] s s' → Rep O s'.heap (.ref x) (.obj C fs) → Q' flv s') →
                        wpAny (model prog w) ((A.under (.builtin "type.__call__" ⟨.ref C :: vs, (kws.map (·.1)).zip kv⟩)).deeper (callEnv fd s2.heap.objs.size f)) (execs body (callEnv fd s2.heap.objs.size f)) Q' E' { s2 with heap := h₀, toks := s2.toks + bv.length } := fun {fl ρ' xn fs} hx how hfl Q' E' q' =>
                      exs_ok (c := ⟨fd.scope, globIn K, ops, ownv f, settable K, 40⟩) k ok (fun _ _ e => e) (fun _ _ e => e) hA' he ⟨rfl, fun _ => hct⟩ (O₀ := O) (N := hh.objs.size) hO 60 _ _ _ _ hx _ _ _ sto low h00 Q' E' fun flv s' O' W' a fi => by
                        have hno := flow_none hfl fi
                        refine q' flv s' hno ((P.trans (st.trans a.stp)).cut fun u hu => .inr ?_) ?_
                        · rcases List.mem_append.mp hu with y | hu
                          · cases y
                          · rcases List.mem_append.mp hu with y | hu
                            · cases y
                            · exact (sto.loc.sub u hu).2
                        · obtain ⟨m, ns, hv, ho⟩ := a.st.loc.ns
                          rw [how] at ho
                          obtain ⟨a', dx', es, n', g1, g2, g3, g4, g0, g5, g6, g7⟩ := ho
                          have : some a' = some x := g2.symm.trans a.last
                          cases this
                          have kp : KeepFor O' s'.heap s'.heap := fun _ _ e _ _ => e
                          refine .obj (fun hm => absurd (hO x hm) (Nat.not_lt.mpr (Nat.le_succ _))) (fun hm => absurd (hO dx' hm) (Nat.not_lt.mpr (a.st.loc.sub dx' g3).2)) g5 g6 (g7.keep kp fun b o hb _ => a.oSup b (h00 b hb))
                    split at h
                    · rename_i ρ' hx
                      split at h
                      · rename_i xn C' fs how
                        split at h
                        · rename_i hC
                          subst hC
                          cases h
                          exact run hx how (.inr rfl) _ _ fun flv s' hno y r => ⟨hno, q _ _ y r⟩
                        · cases h
                      · cases h
                    · rename_i ρ' hx
                      split at h
                      · rename_i xn C' fs how
                        split at h
                        · rename_i hC
                          subst hC
                          cases h
                          exact run hx how (.inl rfl) _ _ fun flv s' hno y r => ⟨hno, q _ _ y r⟩
                        · cases h
                      · cases h
                    · cases h
                · cases h
              · cases h
            · cases h
          · cases h
        · cases h
      · cases h
    · cases h
  · cases h
end
end Mine
end
section
open PySem PySem.W PyProof.Rows
set_option maxRecDepth 100000
namespace Mine

noncomputable def isiD (K : Frag) (C D' : Addr) : Option Bool :=
  if isIn K (.ref C) D' = true then some true
  else if kin_not K C D' = true ∧ plainGet K C "__class__" = true ∧ hasDictIn K C = true ∧ findIn K (.ref C) "__class__" = some (some (.builtin "object.__class__")) ∧ specialIn K (.builtin "object.__class__") "__get__" = some (some (.builtin "getset_descriptor.__get__")) ∧ takesIn K (.builtin "object.__class__") = some true ∧ mroIn K C (.type "object") = some true then some false else none
/-- calls of what is built in, on plain data -/
noncomputable def bIsi (K : Frag) : List D → Option D
  | [.obj C fs, .glob (.ref D')] => (isiD K C D').map .bool
  | _ => none
noncomputable def bAbs : List D → Option D
  | [.int a] => some (.int (if a < 0 then -a else a))
  | _ => none
noncomputable def bIter : List D → Option D
  | [.tup l] => some (.iter l)
  | _ => none
noncomputable def tInt : List D → Option D
  | [.int i] => some (.int i)
  | [.str x] => if x.length ≤ 640 then (PySem.intText? x).map .int else none
  | _ => none
noncomputable def tTup : List D → Option D
  | [.tup l] => some (.tup l)
  | [.list l] => if l.length ≤ 1000 then some (.tup l) else none
  | _ => none
noncomputable def tLst : List D → Option D
  | [.tup l] => if l.length ≤ 1000 then some (.list l) else none
  | _ => none
noncomputable def tStr : List D → Option D
  | [.int i] => if i.natAbs.log2 < 1920 ∧ (Str.ofString (toString i)).length ≤ 1000 then some (.str (Str.ofString (toString i))) else none
  | _ => none
noncomputable def tTyp : List D → Option D
  | [.obj C fs] => some (.glob (.ref C))
  | _ => none
noncomputable def callB (K : Frag) (v : Value) (ds : List D) : Option D := match v with
  | .builtin i => if i = "isinstance" then bIsi K ds else if i = "abs" then bAbs ds else if i = "iter" then bIter ds else none
  | .type t => if t = "int" then tInt ds else if t = "tuple" then tTup ds else if t = "list" then tLst ds else if t = "str" then tStr ds else if t = "type" then tTyp ds else none
  | _ => none

section
variable {prog : Program} {w : World} {K : Frag} {B : Nat}
theorem iter_tup {A : Around} {E : Value → Shared → Prop} {s : Shared} {t : Addr} {items : Array Value} {Q : Value → Shared → Prop} (ht : IsTup s.heap t items)
    (hQ : Q (.ref s.heap.objs.size) { s with heap := s.heap.push { cls := .type "tuple_iterator", data := .fields #[.ref t, .int 0 0] } }) : wpAny (model prog w) A (call (.builtin "iter") [.ref t]) Q E s := by
  refine PySem.Calls.call_function_entry (by kernel_rfl) (by kernel_rfl) kdk_entry_iter (kdk_args_iter _) ?_
  unfold Builtin.«iter»
  refine wpAny_bind (m := someArgs "iter" 1 2 _) (wpAny_of_eq (a := [Value.ref t]) (by first | rfl | kernel_rfl!) ?_)
  exact wpAny_bind (iter_tuple ht (wpAny_pure ⟨_, rfl, hQ⟩))

theorem tuple_of_list {A : Around} {E : Value → Shared → Prop} {s : Shared} {Q : Value → Shared → Prop} {l : Addr} {vs : List Value} (hl : s.heap.IsList l (List.toArray vs)) (hsz : vs.length ≤ sizeLine)
    (q : ∀ s', Stp [] s s' → Q (.ref s'.heap.objs.size) { s' with heap := s'.heap.push { cls := .type "tuple", data := .seq (List.toArray vs) } }) : wpAny (model prog w) A (call (.type "tuple") [.ref l]) Q E s := by
  obtain ⟨o, ho, hc, n, hd⟩ := hl
  have hT : s.TypeIs (.ref l) "list" := ⟨o, ho, hc⟩
  refine callType_codes (Q₁ := fun obj s₁ => s₁.TypeIs obj "tuple" ∧ Q obj s₁) F.called_tuple (F.typeCall_tuple_1 _) F.entry_object_init ?_ fun obj s₁ h₁ => ?_
  · refine codeAny_of_tree ?_
    show wpAny _ A.in1.in1 (do checkBuiltinCall "tuple.__new__" ⟨[.type "tuple", .ref l], []⟩; again (.builtin "tuple.__new__" ⟨[.type "tuple", .ref l], []⟩)) _ _ s
    refine wpAny_bind (wpAny_of_eq (F.newCall_tuple_1 _) (wpAny_pure ⟨plainId_quiet F.plain_tuple_new _, codeAny_builtin F.entry_tuple_new ?_⟩))
    rw [Around.under_plainId F.plain_tuple_new _]
    have hsub := sub_tuple_self
    have hinit := init_tuple_lookup
    have hmh := madeHere_tuple
    have hcol : ∀ {A : Around} {Q : List Value → Shared → Prop} {E : Value → Shared → Prop}, (∀ s', Stp [] s s' → Q vs s') → wpAny (model prog w) A (collect (.ref l)) Q E s := fun {A Q E} q => by
      refine wpAny_up (wpAny_collect_seq (hsz := by rw [List.size_toArray]; exact hsz) l (.inl rfl) ho hc hd fun h' hk u => ?_)
      have x : Stp [] s { s with heap := h' } := .grow (t := s.toks) u.1 hk (Nat.le_refl _)
      exact q _ x
    wp_walk using wpAny_typeOf hT, hcol
    intro s' x
    show wpAny _ _ (Builtin.Tuple.tupleExact (List.toArray vs) >>= fun v => ret v) _ _ _
    unfold Builtin.Tuple.tupleExact
    refine wpAny_bind (wpAny_newObj_type ?_ (by show (List.toArray vs).size ≤ sizeLine; rw [List.size_toArray]; exact hsz))
    exact wpAny_pure ⟨⟨_, Heap.get?_push_size _ rfl, rfl⟩, q s' x⟩
  · exact ⟨h₁.1, F.args_object_init_2 obj _, object_init_meets F.called_tuple.init.lookup F.called_tuple.made (by decide) prog w A.in1 _ s₁ ⟨h₁.1, rfl, h₁.2⟩⟩

theorem callB_ok {f : Value} {as : List D} {d : D} (h : callB K f as = some d) {A : Around} {O : List Addr} {s : Shared} (I : Inv K B s) (hO : OLow O s) {vs : List Value} (ra : RepL O s.heap vs as) : Gives prog w O A (call f vs) s d := by
  unfold callB at h
  intro Q E q
  split at h
  · split at h
    · rename_i e
      subst e
      unfold bIsi at h
      split at h
      · obtain ⟨t, ht, rfl⟩ := Option.map_eq_some_iff.mp h
        obtain ⟨_, _, rfl, r1, ra⟩ := ra.inv
        obtain ⟨_, _, rfl, r2, ra⟩ := ra.inv
        (first | obtain rfl := ra.inv | obtain ⟨_, rfl⟩ := ra.inv | obtain ⟨_, rfl, _⟩ := ra.inv)
        (first | obtain rfl := r2.inv | obtain ⟨_, rfl⟩ := r2.inv | obtain ⟨_, rfl, _⟩ := r2.inv)
        obtain ⟨a, dx, es, n, rfl, hne, h1, h2, rf⟩ := SelfAt.of r1
        have IA : InstAt s.heap a (instObj _ dx) _ (some (dictOf es n)) := ⟨h1, rfl, rfl, h2⟩
        unfold isiD at ht
        split at ht
        · rename_i hin
          cases ht
          exact isi_call I.X (fun M => IA.type) hin (by intro e; cases e) (q _ _ (.refl _ _) (.bool _))
        · split at ht
          · rename_i hc
            cases ht
            exact kin_callC I.X IA hc.1 hc.2.1 hc.2.2.1 hc.2.2.2.1 hc.2.2.2.2.1 hc.2.2.2.2.2.1 hc.2.2.2.2.2.2 (q _ _ (.fresh s 1) (.bool _))
          · cases ht
      · cases h
    split at h
    · rename_i e
      subst e
      unfold bAbs at h
      split at h
      · obtain ⟨_, _, rfl, r1, ra⟩ := ra.inv
        (first | obtain rfl := ra.inv | obtain ⟨_, rfl⟩ := ra.inv | obtain ⟨_, rfl, _⟩ := ra.inv)
        (first | obtain rfl := r1.inv | obtain ⟨_, rfl⟩ := r1.inv | obtain ⟨_, rfl, _⟩ := r1.inv)
        cases h
        exact wpAny_up (call_abs_int fun u tk up => q _ _ (.toks up.2) (.int _ _))
      · cases h
    split at h
    · rename_i e
      subst e
      unfold bIter at h
      split at h
      · obtain ⟨_, _, rfl, r1, ra⟩ := ra.inv
        (first | obtain rfl := ra.inv | obtain ⟨_, rfl⟩ := ra.inv | obtain ⟨_, rfl, _⟩ := ra.inv)
        cases h
        obtain ⟨t, vs, rfl, hn, ht, rs⟩ := r1.tup_inv
        obtain ⟨o, ho, hc, m, hd⟩ := id ht
        have P := Stp.push s { cls := .type "tuple_iterator", data := .fields #[.ref t, .int 0 0] }
        exact iter_tup ht (q _ _ P (.iter (fun hm => absurd (hO _ hm) (Nat.lt_irrefl _)) hn (Heap.get?_push_size _ rfl) rfl rfl (P.keep _ _ ho (notTab_cls hc (by intro q; cases q)) (by simp)) hc hd (rs.on P)))
      · cases h
    cases h
  · split at h
    · rename_i e
      subst e
      unfold tInt at h
      split at h
      · obtain ⟨_, _, rfl, r1, ra⟩ := ra.inv
        (first | obtain rfl := ra.inv | obtain ⟨_, rfl⟩ := ra.inv | obtain ⟨_, rfl, _⟩ := ra.inv)
        (first | obtain rfl := r1.inv | obtain ⟨_, rfl⟩ := r1.inv | obtain ⟨_, rfl, _⟩ := r1.inv)
        cases h
        exact call_int_int (q _ _ (.refl _ _) (.int _ _))
      · split at h
        · rename_i hl
          obtain ⟨i, hi, rfl⟩ := Option.map_eq_some_iff.mp h
          obtain ⟨_, _, rfl, r1, ra⟩ := ra.inv
          (first | obtain rfl := ra.inv | obtain ⟨_, rfl⟩ := ra.inv | obtain ⟨_, rfl, _⟩ := ra.inv)
          (first | obtain rfl := r1.inv | obtain ⟨_, rfl⟩ := r1.inv | obtain ⟨_, rfl, _⟩ := r1.inv)
          exact KIN.call_text hi hl (q _ _ (.fresh s 1) (.int _ _))
        · cases h
      · cases h
    split at h
    · rename_i e
      subst e
      unfold tTup at h
      split at h
      · obtain ⟨_, _, rfl, r1, ra⟩ := ra.inv
        (first | obtain rfl := ra.inv | obtain ⟨_, rfl⟩ := ra.inv | obtain ⟨_, rfl, _⟩ := ra.inv)
        cases h
        obtain ⟨t, vs, rfl, hn, ht, rs⟩ := id r1.tup_inv
        exact call_tuple_tup ht (q _ _ (.refl _ _) r1)
      · split at h
        · rename_i hl
          cases h
          obtain ⟨_, _, rfl, r1, ra⟩ := ra.inv
          (first | obtain rfl := ra.inv | obtain ⟨_, rfl⟩ := ra.inv | obtain ⟨_, rfl, _⟩ := ra.inv)
          obtain ⟨t, vs, rfl, hn, ht, rs⟩ := r1.list_inv
          have hsz : vs.length ≤ sizeLine := by rw [rs.length]; exact Nat.le_trans hl (by decide)
          refine tuple_of_list ht hsz fun s' x => ?_
          have P := Stp.push s' { cls := .type "tuple", data := .seq (List.toArray vs) }
          exact q _ _ (x.tr P) (.tup (n := 0) (fun hm => absurd (hO.on x _ hm) (Nat.lt_irrefl _)) (Heap.get?_push_size _ rfl) rfl rfl ((rs.on x).on P))
        · cases h
      · cases h
    split at h
    · rename_i e
      subst e
      unfold tLst at h
      split at h
      · split at h
        · rename_i hl
          cases h
          obtain ⟨_, _, rfl, r1, ra⟩ := ra.inv
          (first | obtain rfl := ra.inv | obtain ⟨_, rfl⟩ := ra.inv | obtain ⟨_, rfl, _⟩ := ra.inv)
          obtain ⟨t, vs, rfl, hn, ⟨o, ho, hc, m, hd⟩, rs⟩ := r1.tup_inv
          refine wpAny_up (call_list_seq t (.inr rfl) ho hc hd (fun h' c' hk hg up => ?_) (by rw [List.size_toArray, rs.length]; exact Nat.le_trans hl (by decide)))
          have P : Stp [] s { s with heap := h' } := .grow (t := s.toks) up.1 hk (Nat.le_refl _)
          exact q _ _ P (.list (fun hm => absurd (hO _ hm) (Nat.lt_irrefl _)) hg rfl rfl (rs.on P))
        · cases h
      · cases h
    split at h
    · rename_i e
      subst e
      unfold tStr at h
      split at h
      · split at h
        · rename_i hl
          cases h
          obtain ⟨_, _, rfl, r1, ra⟩ := ra.inv
          (first | obtain rfl := ra.inv | obtain ⟨_, rfl⟩ := ra.inv | obtain ⟨_, rfl, _⟩ := ra.inv)
          (first | obtain rfl := r1.inv | obtain ⟨_, rfl⟩ := r1.inv | obtain ⟨_, rfl, _⟩ := r1.inv)
          exact P.str_of_int hl.1 (q _ _ (.fresh s 1) (.str _ _ (Nat.le_trans hl.2 (by decide))))
        · cases h
      · cases h
    split at h
    · rename_i e
      subst e
      unfold tTyp at h
      split at h
      · obtain ⟨_, _, rfl, r1, ra⟩ := ra.inv
        (first | obtain rfl := ra.inv | obtain ⟨_, rfl⟩ := ra.inv | obtain ⟨_, rfl, _⟩ := ra.inv)
        cases h
        obtain ⟨a, dx, es, n, rfl, hne, h1, h2, rf⟩ := SelfAt.of r1
        have IA : InstAt s.heap a (instObj _ dx) _ (some (dictOf es n)) := ⟨h1, rfl, rfl, h2⟩
        exact kto_own IA (q _ _ (.refl _ _) (.glob _))
      · cases h
    cases h
  · cases h
end
end Mine
end
section
open PySem PySem.W PyProof.Rows
set_option maxRecDepth 100000
namespace Mine

noncomputable def encTab (x : Str) : Option (Array UInt8) :=
  if x = "a" then some #[97] else if x = "b" then some #[98] else if x = "x" then some #[120] else if x = "y" then some #[121] else if x = "z" then some #[122] else none
/-- methods of a text -/
noncomputable def strM (x : Str) (name : Str) (as : List D) : Option D :=
  if name = "isdigit" then (match as with
    | [] => some (.bool (Txt.isdigit x))
    | _ => none)
  else if name = "join" then (match as with
    | [.list l] => (strsOf l).bind fun ys => if x.length ≤ 64 ∧ (ys.map fun y => y.length).sum + ys.length * 64 ≤ 16777216 ∧ (Txt.join x ys).length ≤ sizeLine then some (.str (Txt.join x ys)) else none
    | [.tup l] => (strsOf l).bind fun ys => if x.length ≤ 64 ∧ (ys.map fun y => y.length).sum + ys.length * 64 ≤ 16777216 ∧ (Txt.join x ys).length ≤ sizeLine then some (.str (Txt.join x ys)) else none
    | _ => none)
  else if name = "split" then (match as with
    | [.str y] => if (y.length == 0) = false ∧ x.length + 2 ≤ sizeLine ∧ ((Txt.split x y).all fun p => p.length ≤ 1000) = true then some (.list ((Txt.split x y).map .str)) else none
    | _ => none)
  else if name = "encode" then (match as with
    | [.str e] => if e = "ascii" then (encTab x).map .bytes else none
    | _ => none)
  else none

theorem enc_all {x : Str} {b : Array UInt8} (h : encTab x = some b) (t u : Tok) : Builtin.«str.encode» ⟨[.str x t, .str (Str.ofString "ascii") u], []⟩ = (do ret (← mkBytes b)) ∧ b.size ≤ sizeLine := by
  unfold encTab at h
  split at h
  · rename_i e; subst e; cases h; exact ⟨by kernel_rfl, by decide⟩
  · split at h
    · rename_i e; subst e; cases h; exact ⟨by kernel_rfl, by decide⟩
    · split at h
      · rename_i e; subst e; cases h; exact ⟨by kernel_rfl, by decide⟩
      · split at h
        · rename_i e; subst e; cases h; exact ⟨by kernel_rfl, by decide⟩
        · split at h
          · rename_i e; subst e; cases h; exact ⟨by kernel_rfl, by decide⟩
          · cases h

section
variable {prog : Program} {w : World} {K : Frag} {B : Nat}
theorem strValues_rep {O : List Addr} {h : Heap} : ∀ {l : List (Str × Tok)} {ys : List Str}, l.map (·.1) = ys → (ys.all fun p => p.length ≤ 1000) = true → RepL O h (strValues l) (ys.map .str)
  | [], ys, e, _ => by cases e; exact .nil
  | (x, t) :: r, ys, e, hz => by
    cases e
    rw [List.map_cons, List.all_cons, Bool.and_eq_true, decide_eq_true_eq] at hz
    exact .cons (.str _ _ (Nat.le_trans hz.1 (by decide))) (strValues_rep rfl hz.2)

theorem split_ok {x y : Str} {t u : Tok} {A : Around} {E : Value → Shared → Prop} {s : Shared} {Q : Value → Shared → Prop} (hy : (y.length == 0) = false) (hsz : x.length + 2 ≤ sizeLine)
    (h : ∀ l k, s.toks ≤ k → l.map (·.1) = Txt.split x y → Q (.ref s.heap.objs.size) { s with heap := s.heap.push { cls := .type "list", data := .seq (strValues l).toArray }, toks := k }) : wpAny (model prog w) A (call (.builtin "str.split") [.str x t, .str y u]) Q E s := by
  have hn : (Builtin.Str.partsBetween x (Builtin.Str.occurrences x y 0 x.length (x.length + 1)) y.length).length ≤ sizeLine := by
    have e1 := StrLaws.occ_length_le x y 0 x.length (x.length + 1)
    rw [length_partsBetween]; omega
  cases h1 : (decide (x.length < y.length) || decide (Builtin.Str.strKind x < Builtin.Str.strKind y))
  · cases hf : (Builtin.Str.occurrences x y 0 x.length (x.length + 1)).isEmpty
    · refine call_meets F.slot_str_split (typeIs_str _ _ _) F.entry_str_split (F.args_str_split_2 _ _) (meets_str_split_sep x y t u h1 hy hf (by omega) hn) ?_
      show wants Q E _ { s with toks := _, heap := s.heap.push { cls := .type "list", data := .seq (strsFrom s.toks (Builtin.Str.partsBetween x (Builtin.Str.occurrences x y 0 x.length (x.length + 1)) y.length)).toArray } }
      rw [strsFrom_eq]
      exact h (numbered s.toks _) _ (Nat.le_add_right _ _) ((numbered_texts _ _).trans ((if_neg (ne_true_of_eq_false h1)).trans (if_neg (ne_true_of_eq_false hf))).symm)
    · exact call_meets F.slot_str_split (typeIs_str _ _ _) F.entry_str_split (F.args_str_split_2 _ _) (meets_str_split_not_found x y t u h1 hy hf)
        (h [(x, t)] s.toks (Nat.le_refl _) ((if_neg (ne_true_of_eq_false h1)).trans (if_pos hf)).symm)
  · exact call_meets F.slot_str_split (typeIs_str _ _ _) F.entry_str_split (F.args_str_split_2 _ _) (meets_str_split_cannot_occur x y t u h1)
      (h [(x, t)] s.toks (Nat.le_refl _) (if_pos h1).symm)

theorem encode_ok {x : Str} {b : Array UInt8} (h : encTab x = some b) {t u : Tok} {A : Around} {E : Value → Shared → Prop} {s : Shared} {Q : Value → Shared → Prop} (q : Q (.bytes b s.toks) { s with toks := s.toks + 1 }) :
    wpAny (model prog w) A (call (.builtin "str.encode") [.str x t, .str (Str.ofString "ascii") u]) Q E s :=
  call_gives F.slot_str_encode (typeIs_str _ _ _) F.entry_str_encode (F.args_str_encode_2 _ _) (m := .bytes b) (.of_eq (enc_all h t u).1) ⟨(enc_all h t u).2, q⟩
theorem gm_encode {M : Model} {A : Around} {E : Value → Shared → Prop} {s : Shared} {x : Str} {t : Tok} {pl : Sem Bool} {Q : Value × List Value → Shared → Prop} (h : Q (.builtin "str.encode", [.str x t]) s) : wpAny M A (getMethod (.str x t) "encode" pl) Q E s := by
  with_reducible exact GM.of (.str x t) (typeIs_str _ _ _) F.slot_str_encode F.type_str_encode GM.noRef h
/-- a method that is built in: how it is found, and what its call gives -/
theorem strM_ok {x : Str} {name : Str} {as : List D} {d : D} (h : strM x name as = some d) {t : Tok} (hx : x.length ≤ sizeLine) :
    ∃ i, (∀ (A : Around) (s : Shared) (pl : Sem Bool) (Q : Value × List Value → Shared → Prop) (E : Value → Shared → Prop), Q (.builtin i, [.str x t]) s → wpAny (model prog w) A (getMethod (.str x t) name pl) Q E s) ∧
      ∀ (A : Around) (O : List Addr) (s : Shared), Inv K B s → OLow O s → ∀ vs, RepL O s.heap vs as → Gives prog w O A (call (.builtin i) (.str x t :: vs)) s d := by
  unfold strM at h
  split at h
  · rename_i hn
    subst hn
    split at h
    · cases h
      refine ⟨"str.isdigit", fun A s pl Q E q => GM.isdigit q, fun A O s I hO vs ra => ?_⟩
      (first | obtain rfl := ra.inv | obtain ⟨_, rfl⟩ := ra.inv | obtain ⟨_, rfl, _⟩ := ra.inv)
      exact fun Q E q => SC.isdigit (q _ _ (.refl _ _) (.bool _))
    · cases h
  · split at h
    · rename_i hn
      subst hn
      split at h
      · obtain ⟨ys, hy, h⟩ := Option.bind_eq_some_iff.mp h
        split at h
        · rename_i hc
          cases h
          refine ⟨"str.join", fun A s pl Q E q => GM.join q, fun A O s I hO vs ra => ?_⟩
          obtain ⟨_, _, rfl, r1, ra⟩ := ra.inv
          (first | obtain rfl := ra.inv | obtain ⟨_, rfl⟩ := ra.inv | obtain ⟨_, rfl, _⟩ := ra.inv)
          obtain ⟨l, vs, rfl, _, hl, rs⟩ := r1.list_inv
          exact fun Q E q => wpAny_up (join_listC hl (by simpa using strsOf_ok hy rs) hc.1 hc.2.1 fun t' k u => q _ _ (.toks u.2) (.str _ _ hc.2.2))
        · cases h
      · obtain ⟨ys, hy, h⟩ := Option.bind_eq_some_iff.mp h
        split at h
        · rename_i hc
          cases h
          refine ⟨"str.join", fun A s pl Q E q => GM.join q, fun A O s I hO vs ra => ?_⟩
          obtain ⟨_, _, rfl, r1, ra⟩ := ra.inv
          (first | obtain rfl := ra.inv | obtain ⟨_, rfl⟩ := ra.inv | obtain ⟨_, rfl, _⟩ := ra.inv)
          obtain ⟨l, vs, rfl, _, hl, rs⟩ := r1.tup_inv
          exact fun Q E q => wpAny_up (join_tupleC hl (by simpa using strsOf_ok hy rs) hc.1 hc.2.1 fun t' k u => q _ _ (.toks u.2) (.str _ _ hc.2.2))
        · cases h
      · cases h
    · split at h
      · rename_i hn
        subst hn
        split at h
        · split at h
          · rename_i hc
            cases h
            refine ⟨"str.split", fun A s pl Q E q => GM.split q, fun A O s I hO vs ra => ?_⟩
            obtain ⟨_, _, rfl, r1, ra⟩ := ra.inv
            (first | obtain rfl := ra.inv | obtain ⟨_, rfl⟩ := ra.inv | obtain ⟨_, rfl, _⟩ := ra.inv)
            (first | obtain rfl := r1.inv | obtain ⟨_, rfl⟩ := r1.inv | obtain ⟨_, rfl, _⟩ := r1.inv)
            refine fun Q E q => split_ok hc.1 hc.2.1 fun l k hk e => ?_
            have P : Stp [] s { s with heap := s.heap.push { cls := .type "list", data := .seq (strValues l).toArray }, toks := k } := .grow (by rw [Heap.size_push]; exact Nat.le_succ _) (fun _ _ e => Heap.get?_push_of_some _ e) hk
            exact q _ _ P (.list (n := 0) (fun hm => absurd (hO _ hm) (Nat.lt_irrefl _)) (Heap.get?_push_size _ rfl) rfl rfl (strValues_rep e hc.2.2))
          · cases h
        · cases h
      · split at h
        · rename_i hn
          subst hn
          split at h
          · split at h
            · rename_i he
              obtain ⟨b, hb, rfl⟩ := Option.map_eq_some_iff.mp h
              refine ⟨"str.encode", fun A s pl Q E q => ?_, fun A O s I hO vs ra => ?_⟩
              · exact gm_encode q
              · obtain ⟨_, _, rfl, r1, ra⟩ := ra.inv
                (first | obtain rfl := ra.inv | obtain ⟨_, rfl⟩ := ra.inv | obtain ⟨_, rfl, _⟩ := ra.inv)
                (first | obtain rfl := r1.inv | obtain ⟨_, rfl⟩ := r1.inv | obtain ⟨_, rfl, _⟩ := r1.inv)
                rw [he]
                exact fun Q E q => encode_ok hb (q _ _ (.fresh s 1) (.bytes _ _ (enc_all hb 0 0).2))
            · cases h
          · cases h
        · cases h
end
end Mine
end
section
open PySem PySem.W PyProof.Rows Builtin.ObjectAttr
set_option maxRecDepth 100000
namespace Mine

/-- a classmethod's function -/
noncomputable def cmOf (K : Frag) : Value → Option Addr
  | .ref p => match recIn K p "classmethod" with
    | some (.ref f :: _) => if fnIn K f then some f else none
    | _ => none
  | _ => none
theorem cmOf_eq {K : Frag} {a : Value} {f : Addr} (h : cmOf K a = some f) : ∃ p rest, a = .ref p ∧ recIn K p "classmethod" = some (.ref f :: rest) ∧ fnIn K f = true := by
  unfold cmOf at h
  split at h
  · split at h
    · rename_i hr
      split at h
      · rename_i hf
        cases h
        exact ⟨_, _, rfl, hr, hf⟩
      · cases h
    · cases h
  · cases h
/-- what a method's call runs: a function, and what stands ahead of the arguments -/
noncomputable def instM (K : Frag) (C : Addr) (fs : List (Str × D)) (name : Str) : Option (Addr × Bool) :=
  if findIn K (.ref C) "__getattribute__" = some (some (.builtin "object.__getattribute__")) ∧ findIn K (.ref C) "__getattr__" = some none ∧ (fs.lookup name).isNone = true then match findIn K (.ref C) name with
    | some (some (.ref g)) => if typeIn K (.ref g) = some (.type "function") then some (g, true)
      else if (typeIn K (.ref g)).any (fun t => t != .type "function" && t != .type "method_descriptor" && t != .type "wrapper_descriptor") = true ∧ hasDictIn K C = true ∧ specialIn K (.ref g) "__get__" = some (some (.builtin "classmethod.__get__")) ∧ takesIn K (.ref g) = some false ∧ copiedNames.contains name = false then (cmOf K (.ref g)).map fun f => (f, false)
      else none
    | _ => none
  else none
noncomputable def clsM (K : Frag) (C : Addr) (name : Str) : Option (Addr × Bool) :=
  if specialIn K (.ref C) "__getattribute__" = some (some (.builtin "type.__getattribute__")) then match typeIn K (.ref C) with
    | some mc => if readsIn K C mc = true then (match findCls K (.ref C) mc name with
      | some (.val (.ref f)) => if fnIn K f then some (f, false) else none
      | some (.get (.builtin g) a .none (.ref C')) => if g = "classmethod.__get__" ∧ C' = C then (cmOf K a).map fun f => (f, true) else none
      | _ => none) else none
    | none => none
  else none

section
variable {prog : Program} {w : World} {K : Frag} {B : Nat} (k : Kok K B) {n : Nat} {ops : Ops} (ok : OpsOk prog w K B n ops) {A : Around} (hA : Room A (n + 1))
include k ok hA in
theorem callee_fn {ownv : Addr → Option Str} {f : Addr} {firstD as : List D} {ks : List (Str × D)} {d : D} (h : runF K ownv (settable K) ops f (firstD ++ as) ks = some d) {O : List Addr} {s : Shared} (I : Inv K B s) (hO : OLow O s) {first : List Value} (rf : RepL O s.heap first firstD) : CalleeOk prog w O A s (.ref f) first as ks d := by
  intro s' x
  have I' := I.on k x
  have hk : keepIn K (.ref f) = true := by
    unfold runF at h
    split at h
    · rename_i e; exact keeper_fn e
    · cases h
  exact ⟨keeps_K hk _ I'.X, fun vs kv ra rk => call_fn k ok hA h I' (hO.on x) (RepL.append ra (rf.on x)) rk⟩
include k ok hA in
/-- a bound method -/
theorem callee_bound {ownv : Addr → Option Str} {f q : Addr} {self : Value} {selfD : D} {as : List D} {ks : List (Str × D)} {d : D} (h : runF K ownv (settable K) ops f (selfD :: as) ks = some d) (hf : fnIn K f = true) {O : List Addr} {s : Shared} (I : Inv K B s) (hO : OLow O s) (hq : s.heap.get? q = some (methodObj (.ref f) self)) (rs : Rep O s.heap self selfD) :
    CalleeOk prog w O A s (.ref q) [] as ks d := by
  intro s' x
  have I' := I.on k x
  have hq' := x.keep _ _ hq (notTab_cls rfl (by intro q; cases q)) (by simp)
  exact ⟨keeps_M hf _ ⟨hq', I'.X⟩, fun vs kv ra rk Q E qq => wpAny_call (method_call hq' (code_fn k ok hA h I' (hO.on x) (.cons (rs.on x) ra) rk Q E qq))⟩

include k in
theorem instM_ok {C : Addr} {fs : List (Str × D)} {name : Str} {r : Addr × Bool} (h : instM K C fs name = some r) {A : Around} {O : List Addr} {s : Shared} {v : Value} (I : Inv K B s) (rr : SelfAt O s.heap v C fs) (pl : Sem Bool) {Q : Value × List Value → Shared → Prop} {E : Value → Shared → Prop}
    (q1 : r.2 = true → Q (.ref r.1, [v]) s) (q2 : r.2 = false → ∀ s' p, Stp [] s s' → s'.heap.get? p = some (methodObj (.ref r.1) (.ref C)) → fnIn K r.1 = true → Q (.ref p, []) s') : wpAny (model prog w) A (getMethod v name pl) Q E s := by
  obtain ⟨a, dx, es, n', rfl, hne, h1, h2, rf⟩ := rr
  have IA : InstAt s.heap a (instObj C dx) C (some (dictOf es n')) := ⟨h1, rfl, rfl, h2⟩
  unfold instM at h
  split at h
  · rename_i hc
    obtain ⟨hga, hgg, hno⟩ := hc
    have hno' : PySem.W.lookIn name (dictOf es n') = some none := by
      rcases rf.lookIn (n := n') name with ⟨l1, _⟩ | ⟨v, d', _, l2, _⟩
      · exact l1
      · rw [l2] at hno; cases hno
    split at h
    · rename_i g hg
      split at h
      · rename_i ht
        cases h
        exact method_fn I.X IA hga hgg hg ht (by show Option.map (fun x => x.isSome) (PySem.W.lookIn name (dictOf es n')) = some false; rw [hno']; rfl) (q1 rfl)
      · split at h
        · rename_i hc2
          obtain ⟨t1, hd, t2, t3, t4⟩ := hc2
          obtain ⟨f, hf, rfl⟩ := Option.map_eq_some_iff.mp h
          obtain ⟨p, rest, e, hrec, hfn⟩ := cmOf_eq hf
          cases e
          have hfo : findObj K C (some (dictOf es n')) name = some (.bind (.builtin "classmethod.__get__") (.ref g)) := by
            obtain ⟨cd, hcd, hdict⟩ := any_some hd
            unfold findObj
            rw [hcd, Option.bind_some, hg, Option.bind_some]
            dsimp only
            rw [t2, Option.bind_some]
            dsimp only
            rw [t3, Option.bind_some]
            dsimp only
            have : PySem.W.ownOf cd (some (dictOf es n')) name = some none := by
              unfold PySem.W.ownOf
              simp only [hdict, hno']
              rfl
            rw [this, Option.bind_some]
            dsimp only
            rw [t4]
            rfl
          refine method_usual I.X IA hga hgg hg t1 (get_bind I.X IA hga hfo hgg ?_)
          have P1 : Stp [] s { s with toks := s.toks + 1 } := .fresh s 1
          refine wpAny_call (cm_get (s := { s with toks := s.toks + 1 }) I.X hrec ?_)
          have P2 : Stp [] ({ s with toks := s.toks + 1 } : Shared) { ({ s with toks := s.toks + 1 } : Shared) with heap := s.heap.push (methodObj (.ref f) (.ref C)) } := .push ..
          exact handed_on rfl (q2 rfl _ _ (P1.tr P2) (Heap.get?_push_size _ rfl) hfn)
        · cases h
    · cases h
  · cases h
include k in
theorem clsM_ok {C : Addr} {name : Str} {r : Addr × Bool} (h : clsM K C name = some r) {A : Around} {s : Shared} (I : Inv K B s) (pl : Sem Bool) {Q : Value × List Value → Shared → Prop} {E : Value → Shared → Prop}
    (q1 : r.2 = false → ∀ s', Stp [] s s' → fnIn K r.1 = true → Q (.ref r.1, []) s') (q2 : r.2 = true → ∀ s' p, Stp [] s s' → s'.heap.get? p = some (methodObj (.ref r.1) (.ref C)) → fnIn K r.1 = true → Q (.ref p, []) s') : wpAny (model prog w) A (getMethod (.ref C) name pl) Q E s := by
  unfold clsM at h
  split at h
  · rename_i hg
    split at h
    · rename_i mc hm
      split at h
      · rename_i hr
        refine method_cls I.X hg ?_
        have P1 : Stp [] s { s with toks := s.toks + 1 } := .fresh s 1
        split at h
        · rename_i f hf
          split at h
          · rename_i hfn
            cases h
            exact cls_value I.X hr hf rfl (q1 rfl _ P1 hfn)
          · cases h
        · rename_i g a C' hf
          split at h
          · rename_i hgc
            obtain ⟨rfl, rfl⟩ := hgc
            obtain ⟨f, hcm, rfl⟩ := Option.map_eq_some_iff.mp h
            obtain ⟨p, rest, e, hrec, hfn⟩ := cmOf_eq hcm
            subst e
            refine cls_bind I.X hr hf ?_
            refine wpAny_call (cm_get (s := { s with toks := s.toks + 1 }) I.X hrec ?_)
            have P2 : Stp [] ({ s with toks := s.toks + 1 } : Shared) { ({ s with toks := s.toks + 1 } : Shared) with heap := s.heap.push (methodObj (.ref f) (.ref C')) } := .push ..
            exact handed_on rfl (q2 rfl _ _ (P1.tr P2) (Heap.get?_push_size _ rfl) hfn)
          · cases h
        · cases h
      · cases h
    · cases h
  · cases h
end
end Mine
end
section
open PySem PySem.W PyProof.Rows
set_option maxRecDepth 100000
namespace Mine

/-- what is not like the rest -/
structure Extra where
  bin : Ops → Operator → D → D → Option D
  call : Ops → D → List D → List (Str × D) → Option D
  meth : Ops → Rcv → Str → List D → List (Str × D) → Option D
  texts : D → Option D
  gens : Ops → Scope → Str → Expr → D → Option D
  fmt : Ops → D → Option Str
noncomputable def callU (K : Frag) (ownv : Addr → Option Str) (X : Extra) (o : Ops) (h : D) (as : List D) (ks : List (Str × D)) : Option D :=
  match X.call o h as ks with
  | some d => some d
  | none => match h with
    | .glob (.ref f) => if (fnAt K f).isSome then runF K ownv (settable K) o f as ks else runInit K ownv o f as ks
    | .glob v => if ks.isEmpty then callB K v as else none
    | _ => none
noncomputable def methU (K : Frag) (ownv : Addr → Option Str) (X : Extra) (o : Ops) (r : Rcv) (x : Str) (as : List D) (ks : List (Str × D)) : Option D :=
  match X.meth o r x as ks with
  | some d => some d
  | none => match r with
    | .dat (.str y) => if ks.isEmpty && decide (y.length ≤ sizeLine) then strM y x as else none
    | .dat (.obj C fs) => (match instM K C fs x with
      | some (f, true) => runF K ownv (settable K) o f (.obj C fs :: as) ks
      | some (f, false) => runF K ownv (settable K) o f (.glob (.ref C) :: as) ks
      | none => none)
    | .self C fs => (match instM K C fs x with
      | some (f, false) => runF K ownv (settable K) o f (.glob (.ref C) :: as) ks
      | _ => none)
    | .dat (.glob (.ref C)) => (match clsM K C x with
      | some (f, true) => runF K ownv (settable K) o f (.glob (.ref C) :: as) ks
      | some (f, false) => runF K ownv (settable K) o f as ks
      | none => none)
    | _ => none
noncomputable def opsAt (K : Frag) (ownv : Addr → Option Str) (X : Extra) : Nat → Ops
  | 0 => ⟨fun _ _ _ => none, fun _ _ _ => none, fun _ => none, fun _ _ => none, fun _ _ => none, fun _ _ => none, fun _ _ _ => none, fun _ _ _ _ => none, fun _ => none, fun _ _ _ _ => none, fun _ => none⟩
  | n + 1 => ⟨fun op a b => match binD op a b with
      | some d => some d
      | none => X.bin (opsAt K ownv X n) op a b, cmpD K (opsAt K ownv X n), truD, attrD K, itemD, fun _ _ => none, callU K ownv X (opsAt K ownv X n), methU K ownv X (opsAt K ownv X n), X.texts, X.gens (opsAt K ownv X n), X.fmt (opsAt K ownv X n)⟩

structure ExtraOk (prog : Program) (w : World) (K : Frag) (B : Nat) (X : Extra) : Prop where
  bin : ∀ {n ops}, OpsOk prog w K B n ops → ∀ {op a b d}, X.bin ops op a b = some d → ∀ {A O s va vb}, Room A (n + 1) → Inv K B s → OLow O s → Rep O s.heap va a → Rep O s.heap vb b → Gives prog w O A (binaryOp op va vb) s d
  call : ∀ {n ops}, OpsOk prog w K B n ops → ∀ {h as ks d}, X.call ops h as ks = some d → ∀ {A O s f}, Room A (n + 1) → Inv K B s → OLow O s → Rep O s.heap f h → CalleeOk prog w O A s f [] as ks d
  meth : ∀ {n ops}, OpsOk prog w K B n ops → ∀ {r x as ks d}, X.meth ops r x as ks = some d → ∀ {A O s v}, Room A (n + 1) → Inv K B s → OLow O s → RRep O s.heap v r → ∀ (pl : Sem Bool) (Q : Value × List Value → Shared → Prop) (E : Value → Shared → Prop),
    (∀ f first s', Stp [] s s' → CalleeOk prog w O A s' f first as ks d → Q (f, first) s') → wpAny (model prog w) A (getMethod v x pl) Q E s
  texts : ∀ {a d}, X.texts a = some d → ∀ {n A O W s env L N ρ x y h} {hp xp cp yp pos it sc}, Room A (n + 1) → EnvOk env L → St K B O W N ρ L s → OLow O s → h = Str.ofString "str" → x = y → compOk sc x it = true → globIn K h = some (.type "str") →
    (∀ s', Stp [] s s' → Gives prog w O A (eval it env) s' a) → Gives prog w O A (eval (.ListComp (.Call (.Name h hp) [.Name x xp] [] cp) [⟨.Name y yp, it, [], 0⟩] sc pos) env) s d
  gens : ∀ {n ops}, OpsOk prog w K B n ops → ∀ {sc x elt a d}, X.gens ops sc x elt a = some d → ∀ {A O W s env L N ρ h csc} {hp xp cp pos it}, Room A (n + 1) → EnvOk env L → ScIs K env csc → St K B O W N ρ L s → OLow O s → genOk csc sc h x it = true → globIn K h = some (.type "tuple") →
    (∀ s', Stp [] s s' → Gives prog w O A (eval it env) s' a) → Gives prog w O A (eval (.Call (.Name h hp) [.GeneratorExp elt [⟨.Name x xp, it, [], 0⟩] sc pos] [] cp) env) s d
  fmt : ∀ {n ops}, OpsOk prog w K B n ops → ∀ {a x}, X.fmt ops a = some x → ∀ {A O s v}, Room A (n + 1) → Inv K B s → OLow O s → Rep O s.heap v a → ∀ (Q : Value → Shared → Prop) (E : Value → Shared → Prop), (∀ v' s' t, Stp [] s s' → v' = .str x t → Q v' s') → x.length ≤ 1000 ∧ wpAny (model prog w) A (convS v) Q E s

theorem callB_kind {K : Frag} {v : Value} {as : List D} {d : D} (h : callB K v as = some d) : (∃ i, v = .builtin i) ∨ ∃ T, v = .type T := by
  unfold callB at h
  split at h
  · exact .inl ⟨_, rfl⟩
  · exact .inr ⟨_, rfl⟩
  · cases h
theorem keeper_machine {M : Model} {v : Value} (h : (∃ i, v = .builtin i) ∨ ∃ T, v = .type T) (hp : Heap) : ∃ k, (k = Keeper.frame ∨ k = Keeper.machine ∨ k = Keeper.boundFrame) ∧ Looks M hp (keeperOf v) k := by
  rcases h with ⟨i, rfl⟩ | ⟨T, rfl⟩
  · exact ⟨.machine, .inr (.inl rfl), Looks.of_pure rfl⟩
  · exact ⟨.machine, .inr (.inl rfl), Looks.of_pure rfl⟩

section
variable {prog : Program} {w : World} {K : Frag} {B : Nat} (k : Kok K B) {ownv : Addr → Option Str} {X : Extra} (hX : ExtraOk prog w K B X)
include k hX in
theorem opsAt_ok : ∀ n, OpsOk prog w K B n (opsAt K ownv X n)
  | 0 => by
    refine ⟨?_, ?_, ?_, ?_, ?_, ?_, ?_, ?_, ?_, ?_, ?_⟩
    · intro op a b d h; cases h
    · intro op a b d h; cases h
    · intro a t h; cases h
    · intro r x d h; cases h
    · intro a b d h; cases h
    · intro a b d h; cases h
    · intro h as ks d hc; cases hc
    · intro r x as ks d h; cases h
    · intro a d h; cases h
    · intro a x h; cases h
    · intro sc x elt a d h; cases h
  | n + 1 => by
    have ok := opsAt_ok n
    refine ⟨?_, ?_, ?_, ?_, ?_, ?_, ?_, ?_, ?_, ?_, ?_⟩
    · intro op a b d h A O s va vb hA I hO ra rb
      have h : (match binD op a b with
        | some d => some d
        | none => X.bin (opsAt K ownv X n) op a b) = some d := h
      split at h
      · rename_i hb
        cases h
        exact binD_ok hb hO ra rb
      · exact hX.bin ok h hA I hO ra rb
    · intro op a b d h A O s va vb hA I hO ra rb
      exact cmpD_ok k ok h hA I hO ra rb
    · intro a t h A O s va hA I hO ra
      exact truD_ok h ra
    · intro r x d h A O s v hA I hO rr
      exact attrD_ok h I rr
    · intro a b d h A O s va vb value slice hA I hO hs ra rb
      exact itemD_ok h value slice hs ra rb
    · intro a b d h
      cases h
    · intro h as ks d hc0 A O s f hA I hO rf
      have hc : callU K ownv X (opsAt K ownv X n) h as ks = some d := hc0
      clear hc0
      unfold callU at hc
      split at hc
      · rename_i hx
        cases hc
        exact hX.call ok hx hA I hO rf
      · split at hc
        · (first | obtain rfl := rf.inv | obtain ⟨_, rfl⟩ := rf.inv | obtain ⟨_, rfl, _⟩ := rf.inv)
          split at hc
          · exact callee_fn (firstD := []) (first := []) k ok hA hc I hO .nil
          · rename_i f _ _
            intro s' x
            have I' := I.on k x
            have hm : makesIn K f = true := by
              unfold runInit at hc
              split at hc
              · rename_i e; exact e
              · cases hc
            exact ⟨keeps_K (keeper_cls hm) _ I'.X, fun vs kv ra rk => make_ok k ok hA hc I' (hO.on x) ra rk⟩
        · (first | obtain rfl := rf.inv | obtain ⟨_, rfl⟩ := rf.inv | obtain ⟨_, rfl, _⟩ := rf.inv)
          split at hc
          · rename_i hk
            have : ks = [] := List.isEmpty_iff.mp hk
            subst this
            intro s' x
            exact ⟨keeper_machine (callB_kind hc) _, fun vs kv ra rk => callB_ok hc (I.on k x) (hO.on x) ra⟩
          · cases hc
        · cases hc
    · intro r x as ks d hm0 A O s v hA I hO rr pl Q E q
      have hm : methU K ownv X (opsAt K ownv X n) r x as ks = some d := hm0
      clear hm0
      unfold methU at hm
      split at hm
      · rename_i hx
        cases hm
        exact hX.meth ok hx hA I hO rr pl Q E q
      · split at hm
        · split at hm
          · rename_i hk
            obtain ⟨hk, hz⟩ := Bool.and_eq_true_iff.mp hk
            have : ks = [] := List.isEmpty_iff.mp hk
            subst this
            have rr : Rep O s.heap v (.str _) := rr
            cases rr
            rename_i t hx
            obtain ⟨i, h1, h2⟩ := strM_ok (prog := prog) (w := w) (K := K) (B := B) (t := t) hm hx
            refine h1 A s pl Q E (q _ _ _ (.refl _ _) fun s' x => ⟨keeper_machine (.inl ⟨_, rfl⟩) _, fun vs kv ra rk => ?_⟩)
            exact h2 A O s' (I.on k x) (hO.on x) vs ra
          · cases hm
        · split at hm
          · rename_i hi
            exact instM_ok k hi I (SelfAt.of rr) pl (fun _ => q _ _ _ (.refl _ _) (callee_fn (firstD := [_]) k ok hA hm I hO (.cons rr .nil))) fun e => by cases e
          · rename_i hi
            exact instM_ok k hi I (SelfAt.of rr) pl (fun e => by cases e) fun _ s' p x hp hf => q _ _ _ x (callee_bound k ok hA hm hf (I.on k x) (hO.on x) hp (.glob _))
          · cases hm
        · split at hm
          · rename_i hi
            exact instM_ok k hi I rr pl (fun e => by cases e) fun _ s' p x hp hf => q _ _ _ x (callee_bound k ok hA hm hf (I.on k x) (hO.on x) hp (.glob _))
          · cases hm
        · have rr : Rep O s.heap v (.glob (.ref _)) := rr
          cases rr
          split at hm
          · rename_i hi
            exact clsM_ok k hi I pl (fun e => by cases e) fun _ s' p x hp hf => q _ _ _ x (callee_bound k ok hA hm hf (I.on k x) (hO.on x) hp (.glob _))
          · rename_i hi
            exact clsM_ok k hi I pl (fun _ s' x hf => q _ _ _ x (callee_fn (firstD := []) (first := []) k ok hA hm (I.on k x) (hO.on x) .nil)) fun e => by cases e
          · cases hm
        · cases hm
    · intro a d h A O W s env L N ρ x y hn hp xp cp yp pos it sc hA he hs hO e1 e2 e3 e4 ht
      exact hX.texts h hA he hs hO e1 e2 e3 e4 ht
    · intro a x h A O s v hA I hO ra Q E q
      exact hX.fmt ok h hA I hO ra Q E q
    · intro sc x elt a d h A O W s env L N ρ h' csc hp xp cp pos it hA he hsc hs hO e1 e2 ht
      exact hX.gens ok h hA he hsc hs hO e1 e2 ht
end
end Mine
end
section
open PySem PySem.W PyProof.Rows
open AutoSeq1 (wpAny_loadPart')
set_option maxRecDepth 100000
namespace Mine

/-- a datum that may be said for every set of addresses that P bears -/
noncomputable def RepP (P : Addr → Prop) (h : Heap) (v : Value) (d : D) : Prop := ∀ O₂, (∀ b ∈ O₂, P b) → Rep O₂ h v d
theorem RepP.on {P : Addr → Prop} {V : List Addr} {s s' : Shared} {v : Value} {d : D} (r : RepP P s.heap v d) (x : Stp V s s') (h : ∀ b ∈ V, P b) : RepP P s'.heap v d := fun O₂ h₂ => by
  have a := r (O₂ ++ V) fun b hb => (List.mem_append.mp hb).elim (h₂ b) (h b)
  exact (a.on x fun u hu => List.mem_append_right _ hu).keep (fun _ _ e _ _ => e) fun b o hb e => List.mem_append_left _ hb
noncomputable def RepLP (P : Addr → Prop) (h : Heap) : List Value → List D → Prop
  | [], [] => True
  | v :: vs, d :: ds => RepP P h v d ∧ RepLP P h vs ds
  | _, _ => False
theorem RepLP.on {P : Addr → Prop} {V : List Addr} {s s' : Shared} (x : Stp V s s') (h : ∀ b ∈ V, P b) : ∀ {vs : List Value} {ds : List D}, RepLP P s.heap vs ds → RepLP P s'.heap vs ds
  | [], [], _ => trivial
  | _ :: _, _ :: _, ⟨a, b⟩ => ⟨a.on x h, b.on x h⟩
  | [], _ :: _, q => q.elim
  | _ :: _, [], q => q.elim
/-- the steps that leave an iterator alone, no generator turned -/
noncomputable def AwayG (P : Addr → Prop) (U : List Addr) (b : Nat) (s s' : Shared) : Prop := (∃ V, Stp V s s' ∧ ∀ v ∈ V, v ∉ U ∧ P v ∧ b ≤ v) ∧ s'.gens = s.gens
section
variable (prog : Program) (w : World) (A : Around) (P : Addr → Prop) (U : List Addr) (b : Nat)
noncomputable def IterG : List D → Value → Shared → Prop
  | [], it, s₀ => ∀ s, AwayG P U b s₀ s → ∀ (Q : Option Value → Shared → Prop) (E : Value → Shared → Prop), (∀ s', Stp U s s' → Q none s') → wpAny (model prog w) A (pyNext it) Q E s
  | d :: ds, it, s₀ => ∀ s, AwayG P U b s₀ s → ∀ (Q : Option Value → Shared → Prop) (E : Value → Shared → Prop),
      (∀ v s', Stp U s s' → RepP P s'.heap v d → IterG ds it s' → Q (some v) s') → wpAny (model prog w) A (pyNext it) Q E s
end
section
variable {prog : Program} {w : World} {A : Around} {P : Addr → Prop} {U : List Addr} {bb : Nat}
theorem IterD.g {z : Nat} {O : List Addr} : ∀ {ds : List D} {it : Value} {s : Shared}, IterD prog w A z O U ds it s → IterG prog w A (fun b => b ∈ O ∨ z ≤ b) U bb ds it s
  | [], _, _, h => fun s aw Q E q => h s (let ⟨V, x, hV⟩ := aw.1; ⟨V, x, fun v hv => ⟨(hV v hv).1, (hV v hv).2.1⟩⟩) Q E q
  | _ :: _, _, _, h => fun s aw Q E q => h s (let ⟨V, x, hV⟩ := aw.1; ⟨V, x, fun v hv => ⟨(hV v hv).1, (hV v hv).2.1⟩⟩) Q E fun v s' x r i => q v s' x r i.g
theorem IterG.away {ds : List D} {it : Value} {s₀ s : Shared} (h : IterG prog w A P U bb ds it s₀) (x : AwayG P U bb s₀ s) : IterG prog w A P U bb ds it s := by
  have tr : ∀ s', AwayG P U bb s s' → AwayG P U bb s₀ s' := by
    intro s' ⟨⟨V', y, hV'⟩, g'⟩
    obtain ⟨⟨V, x, hV⟩, g⟩ := x
    exact ⟨⟨V ++ V', x.trans y, fun v hv => (List.mem_append.mp hv).elim (hV v) (hV' v)⟩, g'.trans g⟩
  cases ds with
  | nil => exact fun s' y => h s' (tr s' y)
  | cons d ds => exact fun s' y => h s' (tr s' y)

theorem RepLP.append {h : Heap} {us : List Value} {bs : List D} (y : RepLP P h us bs) : ∀ {vs : List Value} {ds : List D}, RepLP P h vs ds → RepLP P h (vs ++ us) (ds ++ bs)
  | [], [], _ => y
  | _ :: _, _ :: _, ⟨a, b⟩ => ⟨a, RepLP.append y b⟩
  | [], _ :: _, q => q.elim
  | _ :: _, [], q => q.elim
theorem RepLP.length {h : Heap} : ∀ {vs : List Value} {ds : List D}, RepLP P h vs ds → vs.length = ds.length
  | [], [], _ => rfl
  | _ :: _, _ :: _, ⟨_, b⟩ => congrArg (· + 1) b.length
  | [], _ :: _, q => q.elim
  | _ :: _, [], q => q.elim
theorem RepLP.rep {h : Heap} {O₂ : List Addr} (k : ∀ b ∈ O₂, P b) : ∀ {vs : List Value} {ds : List D}, RepLP P h vs ds → RepL O₂ h vs ds
  | [], [], _ => .nil
  | _ :: _, _ :: _, ⟨a, b⟩ => .cons (a _ k) (b.rep k)
  | [], _ :: _, q => q.elim
  | _ :: _, [], q => q.elim

theorem extend_loop {R : Result → Shared → Prop} {S : Addr} (hSz : P S) (hSb : bb ≤ S) (hSU : S ∉ U) (hU : ∀ u ∈ U, P u) (res : Value) : ∀ {ds : List D} {it : Value} {s : Shared} {acc : Array Value} {accD : List D} {c : Nat}, IterG prog w A.in1 P U bb ds it s →
    s.heap.get? S = some { cls := .type "list", dict := none, data := .seq acc c, slots := #[] } → RepLP P s.heap acc.toList accD → accD.length + ds.length ≤ 1000 →
    (∀ s' acc' c', Stp (S :: U) s s' → s'.heap.get? S = some { cls := .type "list", dict := none, data := .seq acc' c', slots := #[] } → RepLP P s'.heap acc'.toList (accD ++ ds) → R (.ok (.ret res)) s') →
    codeAny (model prog w) A (.builtin "list.extend.loop" ⟨[.ref S, it, res], []⟩) R s := by
  intro ds
  induction ds with
  | nil =>
    intro it s acc accD c hit hS hacc hn hR
    refine codeAny_builtin F.entry_extend_loop ?_
    rw [Around.under_plainId F.plain_extend_loop _]
    show wpAny _ A.in1 (pyNext it >>= _) _ _ s
    refine wpAny_bind (hit s ⟨⟨[], .refl _ _, by simp⟩, rfl⟩ _ _ fun s' x => ?_)
    refine wpAny_pure (hR s' acc c (x.mono fun u hu => .tail _ hu) (x.keep _ _ hS (notTab_cls rfl (by intro q; cases q)) hSU) ?_)
    rw [List.append_nil]
    exact RepLP.on x hU hacc
  | cons d ds ih =>
    intro it s acc accD c hit hS hacc hn hR
    refine codeAny_builtin F.entry_extend_loop ?_
    rw [Around.under_plainId F.plain_extend_loop _]
    show wpAny _ A.in1 (pyNext it >>= _) _ _ s
    refine wpAny_bind (hit s ⟨⟨[], .refl _ _, by simp⟩, rfl⟩ _ _ fun v s' x rv hit' => ?_)
    have hS' := x.keep _ _ hS (notTab_cls rfl (by intro q; cases q)) hSU
    have hlen : acc.size = accD.length := by rw [← Array.length_toList]; exact hacc.length
    rw [List.length_cons] at hn
    show wpAny _ A.in1 (updateSeq S (·.push v) >>= _) _ _ _
    refine wpAny_bind ?_
    have PS : Stp [S] s' { s' with heap := s'.heap.update S (Obj.mapSeq (·.push v)) } := Stp.same (t := s'.toks) (Heap.SameBut.update ..) (Nat.le_refl _)
    have uS : ∀ b ∈ [S], P b := fun b hb => by rw [List.mem_singleton.mp hb]; exact hSz
    have hacc' : RepLP P (s'.heap.update S (Obj.mapSeq (·.push v))) (acc.push v).toList (accD ++ [d]) := by
      rw [Array.toList_push]
      exact RepLP.on PS uS (RepLP.append (us := [v]) (bs := [d]) (show RepLP P s'.heap [v] [d] from ⟨rv, trivial⟩) (RepLP.on x hU hacc))
    refine wpAny_updateSeq hS' rfl (wpAny_pure ⟨plainId_quiet F.plain_extend_loop _, ih (hit'.away ⟨⟨[S], PS, fun b hb => by rw [List.mem_singleton.mp hb]; exact ⟨hSU, hSz, hSb⟩⟩, rfl⟩) (Heap.get?_update_self _ hS' rfl) hacc' (by rw [List.length_append, List.length_singleton]; omega) fun s'' acc'' c'' y g r => ?_⟩)
      (by rw [hlen]; have : (1000 : Nat) ≤ sizeLine := by decide
          omega) (by show (acc.push v).size ≤ sizeLine + 1; rw [Array.size_push, hlen]; have : (1000 : Nat) ≤ sizeLine := by decide
                     omega)
    refine hR s'' acc'' c'' ((x.trans (PS.trans y)).mono fun u hu => ?_) g (by rw [List.append_assoc] at r; exact r)
    rcases List.mem_append.mp hu with h | h
    · exact .tail _ h
    · rcases List.mem_append.mp h with h | h
      · rw [List.mem_singleton.mp h]; exact .head _
      · exact h

/-- what can be gathered: neither list nor tuple, of no known length, and its iterator gives l -/
structure Src (prog : Program) (w : World) (A : Around) (O T : List Addr) (src : Value) (l : List D) (s : Shared) : Prop where
  low : ∀ u ∈ T, u < s.heap.objs.size
  typ : ∀ s', Stp [] s s' → ∃ T, Looks (model prog w) s'.heap (typeOf src) T ∧ (T == .type "list") = false ∧ (T == .type "tuple") = false
  same : Builtin.List.listSameRef (.ref s.heap.objs.size) src = false
  len : ∀ s', Stp [] s s' → Looks (model prog w) s'.heap (specialOf src "__len__") none ∧ Looks (model prog w) s'.heap (specialOf src "__length_hint__") none
  iter : ∀ s', Stp [] s s' → s'.gens = s.gens → s'.heap.objs.size = s.heap.objs.size + 1 → ∀ (Q : Value → Shared → Prop) (E : Value → Shared → Prop), (∀ it s'' P U b, Stp [] s' s'' → P s.heap.objs.size → b ≤ s.heap.objs.size → (∀ b ∈ O, P b) → (∀ u ∈ U, P u ∧ (u ∈ T ∨ s'.heap.objs.size ≤ u)) → IterG prog w A P U b l it s'' → Q it s'') → wpAny (model prog w) A (pyIter src) Q E s'
  few : l.length ≤ 1000

theorem collect_src {src : Value} {l : List D} {s : Shared} {O T : List Addr} (h : Src prog w A.in1 O T src l s) {Q : List Value → Shared → Prop} {E : Value → Shared → Prop} (q : ∀ vs s', Stp T s s' → RepL O s'.heap vs l → Q vs s') : wpAny (model prog w) A (collect src) Q E s := by
  unfold collect
  refine wpAny_bind (wpAny_runValue (codeAny_builtin F.entry_proto_collect ?_))
  rw [Around.under_plainId F.plain_proto_collect _]
  show wpAny _ A.in1 (newList [] >>= fun l => again (.builtin "list.__iadd__" ⟨[l, src], []⟩)) _ _ s
  refine wpAny_bind (wpAny_newObj_type ?_)
  refine wpAny_pure ⟨plainId_quiet F.plain_list_iadd _, codeAny_builtin F.entry_list_iadd ?_⟩
  rw [Around.under_plainId F.plain_list_iadd _]
  have P : Stp [] s { s with heap := s.heap.push { cls := .type "list", data := .seq ([] : List Value).toArray } } := .push ..
  have hS₁ : (s.heap.push { cls := .type "list", data := .seq ([] : List Value).toArray }).get? s.heap.objs.size = some { cls := .type "list", data := .seq ([] : List Value).toArray } := Heap.get?_push_size _ rfl
  show wpAny _ A.in1 (Builtin.List.listExtendWith (.ref s.heap.objs.size) src (.ref s.heap.objs.size)) _ _ _
  unfold Builtin.List.listExtendWith
  obtain ⟨Tv, hT, h2, h3⟩ := h.typ _ P
  refine wpAny_bind (hT.here ?_)
  simp only [h.same, h2, h3, Bool.or_false, Bool.false_eq_true, if_false]
  refine wpAny_bind (h.iter _ P rfl (by show (Heap.push _ _).objs.size = _; rw [Heap.size_push]) _ _ fun it s2 P' U b x hSO hSb hOO hU hit => ?_)
  obtain ⟨L1, L2⟩ := h.len _ (P.tr x)
  refine wpAny_bind (wpAny_holding ?_)
  unfold Builtin.List.listLengthHint
  refine wpAny_bind (L1.here ?_)
  show wpAny _ A.in1 (specialOf src (Str.ofString "__length_hint__") >>= _) _ _ _
  refine wpAny_bind (L2.here ?_)
  refine wpAny_pure ?_
  show wpAny _ A.in1 (rule "list.extend.makes-room" >>= fun _ => Builtin.List.listTouch (.ref s.heap.objs.size) >>= fun _ =>
    again (.builtin "list.extend.loop" ⟨[.ref s.heap.objs.size, it, .ref s.heap.objs.size], []⟩)) _ _ _
  refine wpAny_bind (wpAny_rule ?_)
  have hS2 := x.keep _ _ hS₁ (notTab_cls rfl (by intro q; cases q)) (by simp)
  refine wpAny_bind ?_
  show wpAny _ A.in1 (updateSeq s.heap.objs.size (·.push .none) >>= fun _ => updateSeq s.heap.objs.size (·.pop)) _ _ _
  refine wpAny_bind (wpAny_updateSeq hS2 rfl ?_)
  have hS3 := Heap.get?_update_self (Obj.mapSeq (·.push Value.none)) hS2 rfl
  refine wpAny_updateSeq hS3 rfl ?_
  have hS4 := Heap.get?_update_self (Obj.mapSeq (·.pop)) hS3 rfl
  have P1 : Stp [s.heap.objs.size] s2 { s2 with heap := s2.heap.update s.heap.objs.size (Obj.mapSeq (·.push Value.none)) } := Stp.same (t := s2.toks) (Heap.SameBut.update ..) (Nat.le_refl _)
  have P2 : Stp [s.heap.objs.size] ({ s2 with heap := s2.heap.update s.heap.objs.size (Obj.mapSeq (·.push Value.none)) } : Shared) { s2 with heap := (s2.heap.update s.heap.objs.size (Obj.mapSeq (·.push Value.none))).update s.heap.objs.size (Obj.mapSeq (·.pop)) } := Stp.same (t := s2.toks) (Heap.SameBut.update ..) (Nat.le_refl _)
  have hSU : s.heap.objs.size ∉ U := fun m => by
    rcases (hU _ m).2 with h0 | h1
    · exact Nat.lt_irrefl _ (h.low _ h0)
    · have h1 : (s.heap.push { cls := .type "list", data := .seq ([] : List Value).toArray }).objs.size ≤ s.heap.objs.size := h1
      rw [Heap.size_push] at h1
      exact Nat.not_succ_le_self _ h1
  have hit' := hit.away (s := { s2 with heap := (s2.heap.update s.heap.objs.size (Obj.mapSeq (·.push Value.none))).update s.heap.objs.size (Obj.mapSeq (·.pop)) }) ⟨⟨_, P1.trans P2, fun v hv => by
    have : v = s.heap.objs.size := by
      rcases List.mem_append.mp hv with m | m <;> exact List.mem_singleton.mp m
    subst this
    exact ⟨hSU, hSO, hSb⟩⟩, rfl⟩
  refine wpAny_pure ⟨plainId_quiet F.plain_extend_loop _, extend_loop (P := P') hSO hSb hSU (fun u hu => (hU u hu).1) _ hit' hS4 (show RepLP P' _ [] [] from trivial) (by rw [List.length_nil, Nat.zero_add]; exact h.few) fun s' acc' c' y hS' r => ?_⟩
  show wpAny _ A (load s.heap.objs.size >>= _) _ _ s'
  refine wpAny_bind (wpAny_load hS' ?_)
  refine wpAny_pure (q _ s' ((P.trans (x.trans (P1.trans (P2.trans y)))).cut fun u hu => ?_) (RepLP.rep hOO r))
  have big : ∀ u ∈ U, u ∈ T ∨ s.heap.objs.size ≤ u := fun u hu => (hU u hu).2.imp id fun h1 => by
    have h1 : (s.heap.push { cls := .type "list", data := .seq ([] : List Value).toArray }).objs.size ≤ u := h1
    rw [Heap.size_push] at h1
    exact Nat.le_of_succ_le h1
  simp only [List.mem_append, List.mem_cons, List.not_mem_nil, or_false, false_or] at hu
  rcases hu with rfl | rfl | rfl | hu
  · exact .inr (Nat.le_refl _)
  · exact .inr (Nat.le_refl _)
  · exact .inr (Nat.le_refl _)
  · exact big u hu
end
end Mine
end
section
open PySem PySem.W PyProof.Rows
open AutoSeq1 (wpAny_loadPart')
set_option maxRecDepth 100000
namespace Mine

section
variable {prog : Program} {w : World} {A : Around} {O T : List Addr}
theorem tuple_new_src {src : Value} {l : List D} {s : Shared} {Q₁ E : Value → Shared → Prop} (h : Src prog w A.in1.in1 O T src l s) (hty : ∃ T', Looks (model prog w) s.heap (typeOf src) T' ∧ (T' == .type "tuple") = false)
    (q : ∀ vs s', Stp T s s' → RepL O s'.heap vs l → Q₁ (.ref s'.heap.objs.size) { s' with heap := s'.heap.push { cls := .type "tuple", data := .seq (List.toArray vs) } }) :
    codeAny (model prog w) A (.call (.builtin "tuple.__new__") ⟨[.type "tuple", src], []⟩) (wants Q₁ E) s := by
  refine codeAny_of_tree ?_
  show wpAny _ A.in1 (do checkBuiltinCall "tuple.__new__" ⟨[.type "tuple", src], []⟩; again (.builtin "tuple.__new__" ⟨[.type "tuple", src], []⟩)) _ _ s
  refine wpAny_bind (wpAny_of_eq (F.newCall_tuple_1 _) (wpAny_pure ⟨plainId_quiet F.plain_tuple_new _, codeAny_builtin F.entry_tuple_new ?_⟩))
  rw [Around.under_plainId F.plain_tuple_new _]
  have hsub := sub_tuple_self
  have hinit := init_tuple_lookup
  have hmh := madeHere_tuple
  obtain ⟨T', hT, hTt⟩ := hty
  wp_walk using hT.here, collect_src h
  intro vs s' x r
  show wpAny _ _ (Builtin.Tuple.tupleExact (List.toArray vs) >>= fun v => ret v) _ _ _
  unfold Builtin.Tuple.tupleExact
  refine wpAny_bind (wpAny_newObj_type ?_ (by show (List.toArray vs).size ≤ sizeLine; rw [List.size_toArray, r.length]; exact Nat.le_trans h.few (by decide)))
  exact wpAny_pure (q vs s' x r)

theorem tuple_src {src : Value} {l : List D} {s : Shared} (h : Src prog w A.in1.in1.in1 O T src l s) (hO : OLow O s) (hty : ∃ T', Looks (model prog w) s.heap (typeOf src) T' ∧ (T' == .type "tuple") = false) {Q E : Value → Shared → Prop} (q : ∀ v s', Stp T s s' → Rep O s'.heap v (.tup l) → Q v s') : wpAny (model prog w) A (call (.type "tuple") [src]) Q E s := by
  refine callType_codes (Q₁ := fun obj s₁ => s₁.TypeIs obj "tuple" ∧ Q obj s₁) F.called_tuple (F.typeCall_tuple_1 _) F.entry_object_init
    (tuple_new_src h hty fun vs s' x r => ⟨⟨_, Heap.get?_push_size _ rfl, rfl⟩, ?_⟩) fun obj s₁ h₁ => ?_
  · have P := Stp.push s' { cls := .type "tuple", data := .seq (List.toArray vs) }
    exact q _ _ ((x.trans P).mono (by simp)) (.tup (n := 0) (fun hm => absurd (hO.on x _ hm) (Nat.lt_irrefl _)) (Heap.get?_push_size _ rfl) rfl rfl (r.on P))
  · exact ⟨h₁.1, F.args_object_init_2 obj _, object_init_meets F.called_tuple.init.lookup F.called_tuple.made (by decide) prog w A.in1 _ s₁ ⟨h₁.1, rfl, h₁.2⟩⟩
end
end Mine
end
section
open PySem PySem.W PyProof.Rows
set_option maxRecDepth 100000
namespace Mine

/-- the names of a function's frame -/
noncomputable def bindD (K : Frag) (fd : FuncData) (args : List D) (kws : List (Str × D)) : Option (List (Str × D)) :=
  if fnGood K fd then match dfl K fd.defaults with
    | some dd => match bindL (fd.params.args.map (·.arg)) args kws dd with
      | some b => if b.all fun y => fd.scope.names.lookup y.1 == some .local then some b.reverse else none
      | none => none
    | none => none
  else none
noncomputable def RoomD (A : Around) (n : Nat) : Prop := A.depth < recursionLimit ∧ ∀ env, Room (A.deeper env) n
theorem Room.d {A : Around} {n : Nat} (hA : Room A (n + 1)) : RoomD A n := by
  refine ⟨by have := hA.depth; omega, fun env => ?_⟩
  obtain ⟨r1, r2, r3, r4, l, r5⟩ := hA
  exact ⟨by show A.depth + 1 + 8 * n < _; omega, by show A.units + 3 + 16 * n < _; omega, r3, r4, _, by show A.frames.map _ = _; rw [r5]; rfl⟩
theorem Room.d3 {A : Around} {n : Nat} (hA : Room A (n + 1)) : RoomD A.in1.in1.in1 n := by
  refine ⟨by have := hA.depth; show A.depth < _; omega, fun env => ?_⟩
  obtain ⟨r1, r2, r3, r4, l, r5⟩ := hA
  exact ⟨by show A.depth + 1 + 8 * n < _; omega, by show A.units + 1 + 1 + 1 + 3 + 16 * n < _; omega, r3, r4, _, by show A.frames.map _ = _; rw [r5]; rfl⟩
section
variable {prog : Program} {w : World} {K : Frag} {B : Nat} (k : Kok K B)
include k in
/-- a call goes on as its body does -/
theorem call_body {A : Around} {n : Nat} (hA : RoomD A n) {f : Addr} {fd : FuncData} (hf : fnAt K f = some fd) {body : List Stmt} (hbody : fd.body = .stmts body) {args : List D} {kws : List (Str × D)} {b : List (Str × D)} (hb : bindD K fd args kws = some b)
    {O : List Addr} {s : Shared} (I : Inv K B s) (hO : OLow O s) {vs kv : List Value} (ra : RepL O s.heap vs args) (rk : RepL O s.heap kv (kws.map (·.2))) {Q E : Value → Shared → Prop}
    (h : ∀ env s₁, Room (A.deeper env) n → EnvOk env s.heap.objs.size → ScIs K env fd.scope → (env.func = some f ∧ env.frame = some s.heap.objs.size) → St K B (s.heap.objs.size :: O) [s.heap.objs.size] s.heap.objs.size ⟨b, .none⟩ s.heap.objs.size s₁ → OLow (s.heap.objs.size :: O) s₁ → Stp [] s s₁ → s.heap.objs.size < s₁.heap.objs.size →
      ∃ E', wpAny (model prog w) (A.deeper env) (execs body env) (fun fl s' => Q (retVal fl) s') E' s₁ ∧ (∀ e s', E' e s' → wpAny (model prog w) (A.deeper env) (leaving env e) (fun _ s'' => E e s'') E s')) :
    wpAny (model prog w) A (call (.ref f) vs ((kws.map (·.1)).zip kv)) Q E s := by
  obtain ⟨oc, od, osl, hl⟩ := fnAt_get hf
  unfold bindD at hb
  split at hb
  · rename_i hgood
    unfold fnGood at hgood
    simp only [Bool.and_eq_true, beq_iff_eq, Bool.not_eq_true'] at hgood
    obtain ⟨⟨⟨⟨⟨⟨⟨⟨hp, hcd⟩, hgl⟩, hbl⟩, hco⟩, hgen⟩, hk⟩, hcell⟩, hct⟩ := hgood
    split at hb
    · rename_i dd hdd
      split at hb
      · rename_i b' hb'
        split at hb
        · rename_i hloc
          cases hb
          obtain ⟨X, lim, tok, base, tabsI, glob⟩ := I
          have bind : ∃ bv, BindsTo s fd ⟨vs, (kws.map (·.1)).zip kv⟩ bv ∧ RepB (Rep O s.heap) bv b' := by
            unfold dfl at hdd
            split at hdd
            · rename_i hd0
              cases hdd
              obtain ⟨bv, h1, h2⟩ := bindL_rep (ra.all fun _ _ x => x) (RepB.kw (rk.all fun _ _ x => x)) .nil hb'
              obtain ⟨kk, e1, e2⟩ := bindArgs_eq (fd := fd) (args := ⟨vs, (kws.map (·.1)).zip kv⟩) (items := none) hp h1
              refine ⟨bv, BindsTo.of_eq ?_, h2⟩
              rw [e1, hd0, ← e2]
              rfl
            · rename_i T hd0
              split at hdd
              · rename_i oc' od' items nn osl' hT
                obtain ⟨bv, h1, h2⟩ := bindL_rep (ra.all fun _ _ x => x) (RepB.kw (rk.all fun _ _ x => x)) ((valsD_ok hdd).all fun _ _ x => x) hb'
                obtain ⟨kk, e1, e2⟩ := bindArgs_eq (fd := fd) (args := ⟨vs, (kws.map (·.1)).zip kv⟩) (items := some items) hp h1
                exact ⟨bv, BindsTo.of_defaults hd0 (X _ _ hT) rfl e1 e2, h2⟩
              · cases hdd
            · cases hdd
          obtain ⟨bv, hbind, hrep⟩ := bind
          refine wpAny_call (codeAny_call_def (hroom := hA.1) (X _ _ hl) rfl lim (codeRec_of X hcd) hbody hbind (fun x hx => ?_) (hrep.local hloc) (fun h₀ hns hk₀ => ?_) hco hgen hk)
          · have := List.all_eq_true.mp hcell x hx
            simpa using this
          · have hLs : s.heap.objs.size < h₀.objs.size := by
              obtain ⟨o, _, _, e, _⟩ := hns
              exact Heap.lt_size e
            have st : Stp [] s { s with heap := h₀, toks := s.toks + bv.length } := .grow (Nat.le_of_lt hLs) hk₀ (Nat.le_add_right _ _)
            have inv : Inv K B { s with heap := h₀, toks := s.toks + bv.length } := Inv.on k ⟨X, lim, tok, base, tabsI, glob⟩ st
            have hA' : Room (A.deeper (callEnv fd s.heap.objs.size f)) n := hA.2 _
            have kp : KeepFor O s.heap s.heap := fun _ _ e _ _ => e
            have wid : ∀ {v d}, Rep O s.heap v d → Rep (s.heap.objs.size :: O) h₀ v d := fun r =>
              (r.keep (O' := s.heap.objs.size :: O) kp fun b o hb e => (List.mem_cons.mp hb).elim (fun q => absurd (Heap.lt_size e) (by rw [q]; exact Nat.lt_irrefl _)) id).on st
            have sto : St K B (s.heap.objs.size :: O) [s.heap.objs.size] s.heap.objs.size ⟨b'.reverse, .none⟩ s.heap.objs.size { s with heap := h₀, toks := s.toks + bv.length } := by
              refine ⟨inv, ⟨⟨_, hns, fun x d e => ?_, trivial⟩, .head _, fun a ha => by rw [List.mem_singleton.mp ha]; exact ⟨.head _, Nat.le_refl _⟩⟩, base⟩
              rcases hrep.rev.look x with ⟨_, z⟩ | ⟨v, d', z1, z2, r⟩
              · rw [show (b'.reverse.lookup x) = some d from e] at z; cases z
              · have e' : b'.reverse.lookup x = some d := e
                rw [z2] at e'; cases e'
                exact ⟨v, z1, wid r⟩
            have low : OLow (s.heap.objs.size :: O) { s with heap := h₀, toks := s.toks + bv.length } := fun a ha => (List.mem_cons.mp ha).elim (fun e => by rw [e]; exact hLs) fun e => Nat.lt_trans (hO a e) hLs
            obtain ⟨E', z1, z2⟩ := h (callEnv fd s.heap.objs.size f) _ hA' ⟨hk, hgl, hbl, rfl⟩ ⟨rfl, fun _ => hct⟩ ⟨rfl, rfl⟩ sto low st hLs
            exact wpAny_mono z1 (fun fl s' z => z) z2
        · cases hb
      · cases hb
    · cases hb
  · cases hb
end
end Mine
end
section
open PySem PySem.W PyProof.Rows
set_option maxRecDepth 100000
namespace Mine

theorem RepLZ.weak {z z' : Nat} {O O' : List Addr} {h : Heap} (k : ∀ b, (b ∈ O' ∨ z' ≤ b) → b ∈ O ∨ z ≤ b) : ∀ {vs : List Value} {ds : List D}, RepLZ z O h vs ds → RepLZ z' O' h vs ds
  | [], [], _ => trivial
  | _ :: _, _ :: _, ⟨a, b⟩ => ⟨fun O₂ h₂ => a O₂ fun b hb => k b (h₂ b hb), b.weak k⟩
  | [], _ :: _, q => q.elim
  | _ :: _, [], q => q.elim
/-- an __iter__ that is just 'return iter(..)' -/
noncomputable def iterFn (K : Frag) (o : Ops) (f : Addr) (self : D) : Option (List D) := match fnAt K f with
  | some fd => match fd.body with
    | .stmts [.Return (some (.Call (.Name x xp) [e] [] cp)) rp] => if fd.scope.names.lookup x = some .globalImplicit ∧ globIn K x = some (.builtin "iter") ∧ (x == ("__debug__" : Str)) = false ∧ plainExpr e = true then match bindD K fd [self] [] with
      | some b => match ev ⟨fd.scope, ⟨b, .none⟩, globIn K, o⟩ 40 e with
        | some (.tup l) => if l.length ≤ 1000 then some l else none
        | _ => none
      | none => none
      else none
    | _ => none
  | none => none
/-- calls that run the object's own methods; a class without an __init__ of its own -/
noncomputable def callX (K : Frag) (o : Ops) (h : D) (as : List D) (ks : List (Str × D)) : Option D := match h, as, ks with
  | .glob (.ref C), [], [] => if makesIn K C = true ∧ findIn K (.ref C) "__init__" = some (some (.builtin "object.__init__")) then some (.obj C []) else none
  | .glob (.type T), [.obj C fs], [] => if T = "str" then (match findIn K (.ref C) "__str__" with
      | some (some (.ref f)) => if isFn K (.ref f) then (match o.call (.glob (.ref f)) [.obj C fs] [] with
        | some (.str x) => some (.str x)
        | _ => none) else none
      | _ => none)
    else if T = "tuple" then (match findIn K (.ref C) "__iter__" with
      | some (some (.ref f)) => if isFn K (.ref f) = true ∧ findIn K (.ref C) "__len__" = some none ∧ findIn K (.ref C) "__length_hint__" = some none then (iterFn K o f (.obj C fs)).map .tup else none
      | _ => none)
    else none
  | _, _, _ => none

section
variable {prog : Program} {w : World} {K : Frag} {B : Nat} (k : Kok K B) {n : Nat} {ops : Ops} (ok : OpsOk prog w K B n ops)

theorem make0_ok {C : Addr} (hm : makesIn K C = true) (hi : findIn K (.ref C) "__init__" = some (some (.builtin "object.__init__"))) {A : Around} {O : List Addr} {s : Shared} (I : Inv K B s) (hO : OLow O s) : Gives prog w O A (call (.ref C) []) s (.obj C []) := by
  intro Q E q
  obtain ⟨hh, g, d, t, os⟩ := s
  have Y := makes_of (M := model prog w) I.X hm
  have P1 : Stp [] (⟨hh, g, d, t, os⟩ : Shared) ⟨hh.push emptyDict, g, d, t, os⟩ := .push ..
  have P2 : Stp [] (⟨hh.push emptyDict, g, d, t, os⟩ : Shared) ⟨(hh.push emptyDict).push (instObj C hh.objs.size), g, d, t, os⟩ := .push ..
  have gx : ((hh.push emptyDict).push (instObj C hh.objs.size)).get? (hh.objs.size + 1) = some (instObj C hh.objs.size) := by
    have e : ((hh.push emptyDict).push (instObj C hh.objs.size)).get? (hh.push emptyDict).objs.size = some (instObj C hh.objs.size) := Heap.get?_push_size _ rfl
    rwa [Heap.size_push] at e
  have gd : ((hh.push emptyDict).push (instObj C hh.objs.size)).get? hh.objs.size = some (dictOf [] 0) := Heap.get?_push_of_some _ (Heap.get?_push_size _ rfl)
  refine wpAny_call (make_core Y (looks_findIn I.X hi) (fun self => Looks.of_pure (oi_bind self)) (.inr ⟨rfl, rfl⟩) ?_)
  have t1 : Looks (model prog w) ((hh.push emptyDict).push (instObj C hh.objs.size)) (typeOf (.ref (hh.objs.size + 1))) (.ref C) := (Looks.ld gx).andThen .now
  have t2 : Looks (model prog w) ((hh.push emptyDict).push (instObj C hh.objs.size)) (isInstance (.ref (hh.objs.size + 1)) (.type "object")) true := t1.andThen (Y.top.keeps fun b o e => Heap.get?_push_of_some _ (Heap.get?_push_of_some _ e))
  refine codeAny_call_builtin oi_plain entry_oi (@check_slot (model prog w) _ _ _ "object.__init__" "object" "__init__" (.ref (hh.objs.size + 1)) [] [] _ oi_kind oi_split t2 (oi_args (.ref (hh.objs.size + 1))) ?_)
  rw [oi_run]
  exact wpAny_pure (And.intro rfl (q _ _ (P1.tr P2) (.obj (fun hm => absurd (hO _ hm) (Nat.not_lt.mpr (Nat.le_succ _))) (fun hm => absurd (hO _ hm) (Nat.lt_irrefl _)) gx gd .nil)))

/-- the iterator that an object's own __iter__ gives -/
theorem iter_own {M : Model} {A : Around} {E : Value → Shared → Prop} {s : Shared} {x C f : Addr} {ox : Obj} {od : Option Obj} {Q : Value → Shared → Prop} (X : K.In s.heap) (I : InstAt s.heap x ox C od) (hs : findIn K (.ref C) "__iter__" = some (some (.ref f))) (hf : isFn K (.ref f) = true)
    (h : wpAny M A (call (.ref f) [.ref x]) (fun v s' => s'.TypeIs v "tuple_iterator" ∧ Q v s') E s) : wpAny M A (pyIter (.ref x)) Q E s := by
  have fin : wpAny M A (call (.ref f) [.ref x] >>= fun v => pure (some v)) (fun r s' => ∃ v, r = some v ∧ s'.TypeIs v "tuple_iterator" ∧ Q v s') E s :=
    wpAny_bind (wpAny_mono h (fun v s' h' => wpAny_pure ⟨v, rfl, h'⟩) fun _ _ z => z)
  have one : ∀ refuse : Sem Value, wpAny M A (callSpecialIfBoundUnlessNone? (.ref x) "__iter__" refuse) (fun r s' => ∃ v, r = some v ∧ s'.TypeIs v "tuple_iterator" ∧ Q v s') E s := by
    intro refuse
    simp only [callSpecialIfBoundUnlessNone?, bindSpecialIfBound?]
    refine wpAny_holding (wpAny_bind (wpAny_bind (wpAny_bind (I.type.here ((looks_findIn X hs).here ?_)))))
    refine wpAny_bind (wpAny_askSetting (wpAny_ite ?_))
    have fin2 : wpAny M A (if (Value.ref f == Value.none) = true then (refuse >>= fun v => pure (some v)) else (call (.ref f) [.ref x] >>= fun v => pure (some v))) (fun r s' => ∃ v, r = some v ∧ s'.TypeIs v "tuple_iterator" ∧ Q v s') E s := by
      rw [if_neg (show ¬ ((Value.ref f == Value.none) = true) from Bool.false_ne_true)]
      exact fin
    split
    · exact wpAny_bind ((bind_fn X _ (beq_iff_eq.mp hf)).here (wpAny_pure (by exact fin2)))
    · exact wpAny_tryCatch (wpAny_bind ((bind_fn X _ (beq_iff_eq.mp hf)).here (wpAny_pure (by exact fin2))))
  unfold pyIter
  refine wpAny_bind (wpAny_bind (I.type.here ((looks_findIn X hs).here ?_)))
  show wpAny M A (callSpecialIfBoundUnlessNone? (.ref x) "__iter__" _ >>= _) Q E s
  refine wpAny_bind (wpAny_mono (one _) (fun r s' hr => ?_) fun _ _ z => z)
  obtain ⟨v, rfl, ht, hv⟩ := hr
  exact wpAny_bind (wpAny_specialOf ht slot_tupleiter_next.lookup (wpAny_pure hv))

include k ok in
theorem iterFn_ok {f : Addr} {self : D} {l : List D} (h : iterFn K ops f self = some l) {A : Around} {O : List Addr} {s : Shared} (hA : RoomD A n) (I : Inv K B s) (hO : OLow O s) {v : Value} (r : Rep O s.heap v self) {Q E : Value → Shared → Prop}
    (q : ∀ it s' U P, Stp [] s s' → (∀ b ∈ O, P b) → (∀ u ∈ U, P u ∧ s.heap.objs.size ≤ u) → IterG prog w A P U B l it s' → s'.TypeIs it "tuple_iterator" → Q it s') : wpAny (model prog w) A (call (.ref f) [v]) Q E s := by
  unfold iterFn at h
  split at h
  · rename_i fd hf
    split at h
    · rename_i x xp e cp rp hbody
      split at h
      · rename_i hc
        obtain ⟨hx, hg, hd, hp⟩ := hc
        split at h
        · rename_i b hb
          split at h
          · rename_i l' hev
            split at h
            · cases h
              refine call_body k hA hf hbody hb (kws := []) (kv := []) I hO (.cons r .nil) .nil fun env s₁ hA' he hsc _ sto low st hLs => ⟨fun _ _ => False, ?_, fun _ _ z => z.elim⟩
              refine wpAny_execs_cons (wpAny_Return_some ?_)
              rw [arm_eval_Call_Name']
              refine wpAny_bind (gives_global he sto.inv (by rw [hsc.eq]; exact hx) hd hg ?_)
              have st1 : starEach [e] env = (false, eval e env) :: starEach [] env := by cases e <;> first | rfl | cases hp
              refine PyProof.Rows.callWith_builtin1 (rest := []) (wpAny_items_cons (rest := []) (ev_ok (c := ⟨fd.scope, ⟨b, .none⟩, globIn K, ops⟩) k ok (fun _ _ e => e) hA' he hsc hev s₁ sto low _ _ fun tv s₂ y rt => wpAny_items_nil ?_) st1) st1
              obtain ⟨t, vs, rfl, hn, ht, rs⟩ := rt.tup_inv
              obtain ⟨o, ho, hco, m, hdt⟩ := id ht
              have P := Stp.push s₂ { cls := .type "tuple_iterator", data := .fields #[.ref t, .int 0 0] }
              refine iter_tup ht ?_
              have hta : t ≠ s₂.heap.objs.size := Nat.ne_of_lt (Heap.lt_size ho)
              have S3 := st.tr (y.tr P)
              have hz3 : s₂.heap.objs.size < (s₂.heap.push { cls := .type "tuple_iterator", data := .fields #[.ref t, .int 0 0] }).objs.size := by rw [Heap.size_push]; exact Nat.lt_succ_self _
              refine q _ _ [s₂.heap.objs.size] (fun b => b ∈ s₂.heap.objs.size :: O ∨ s₂.heap.objs.size + 1 ≤ b) S3 (fun b hb => .inl (.tail _ hb)) (fun u hu => ?_) ?_ ⟨_, Heap.get?_push_size _ rfl, rfl⟩
              · rw [List.mem_singleton.mp hu]
                exact ⟨.inl (.head _), (st.tr y).size⟩
              · refine (iterD_tuple (A := A) (prog := prog) (w := w) (show A.handled = none from hA'.handled) (i := 0) (fun hm => ?_) (Nat.lt_succ_of_lt (Heap.lt_size ho)) (.inl (.head _)) hta ⟨_, Heap.get?_push_size _ rfl, rfl, rfl⟩ (P.keep _ _ ho (notTab_cls hco (by intro q; cases q)) (by simp)) hco hdt ?_).g
                · rcases List.mem_cons.mp hm with e | e
                  · exact hta e
                  · exact hn (.tail _ e)
                · rw [List.drop_zero, List.toList_toArray]
                  refine RepLZ.on P (by simp) (RepLZ.weak (fun b hb => ?_) (RepLZ.of rs))
                  rcases hb with hb | hb
                  · rcases List.mem_cons.mp hb with e | e
                    · exact .inr (Nat.le_of_eq e.symm)
                    · exact .inl (.tail _ e)
                  · exact .inr (Nat.le_of_succ_le hb)
            · cases h
          · cases h
        · cases h
      · cases h
    · cases h
  · cases h
include k ok in
theorem callX_ok {h : D} {as : List D} {ks : List (Str × D)} {d : D} (hc : callX K ops h as ks = some d) {A : Around} {O : List Addr} {s : Shared} {f : Value} (hA : Room A (n + 1)) (I : Inv K B s) (hO : OLow O s) (rf : Rep O s.heap f h) : CalleeOk prog w O A s f [] as ks d := by
  unfold callX at hc
  split at hc
  · rename_i C
    split at hc
    · rename_i hm
      cases hc
      (first | obtain rfl := rf.inv | obtain ⟨_, rfl⟩ := rf.inv | obtain ⟨_, rfl, _⟩ := rf.inv)
      intro s' x
      have I' := I.on k x
      refine ⟨keeps_K (keeper_cls hm.1) _ I'.X, fun vs kv ra rk => ?_⟩
      (first | obtain rfl := ra.inv | obtain ⟨_, rfl⟩ := ra.inv | obtain ⟨_, rfl, _⟩ := ra.inv)
      exact make0_ok hm.1 hm.2 I' (hO.on x)
    · cases hc
  · rename_i T C fs
    (first | obtain rfl := rf.inv | obtain ⟨_, rfl⟩ := rf.inv | obtain ⟨_, rfl, _⟩ := rf.inv)
    intro s' x
    have I' := I.on k x
    refine ⟨keeper_machine (.inr ⟨_, rfl⟩) _, fun vs kv ra rk => ?_⟩
    obtain ⟨_, _, rfl, r1, ra⟩ := ra.inv
    (first | obtain rfl := ra.inv | obtain ⟨_, rfl⟩ := ra.inv | obtain ⟨_, rfl, _⟩ := ra.inv)
    have hR : Rooms A n 16 := hA.rooms
    obtain ⟨a, dx, es, n', rfl, hne, h1, h2, rfs⟩ := SelfAt.of r1
    have IA : InstAt s'.heap a (instObj C dx) C (some (dictOf es n')) := ⟨h1, rfl, rfl, h2⟩
    split at hc
    · rename_i hT
      subst hT
      split at hc
      · rename_i f hf
        split at hc
        · rename_i hfn
          split at hc
          · rename_i y hy
            cases hc
            have hR2 : Rooms A.in1.in1 n 14 := hR.in1.in1
            have c := (ok.call hy hR2.here I' (hO.on x) (.glob _)) s' (.refl _ _)
            refine fun Q E q => kso_call hR2.units_lt I'.X IA hf hfn (c.2 [_] [] (.cons r1 .nil) .nil _ _ fun v s'' z r => ?_)
            obtain ⟨t, rfl, hx⟩ := r.inv
            exact q _ _ z (.str _ _ hx)
          · cases hc
        · cases hc
      · cases hc
    · split at hc
      · rename_i hT
        subst hT
        split at hc
        · rename_i f hf
          split at hc
          · rename_i hcond
            obtain ⟨hfn, hl1, hl2⟩ := hcond
            obtain ⟨l, hy, rfl⟩ := Option.map_eq_some_iff.mp hc
            have inst : ∀ s'', Stp [] s' s'' → InstAt s''.heap a (instObj C dx) C (some (dictOf es n')) := fun s'' y => ⟨y.keep _ _ h1 (notTab_cls rfl (by intro q; cases q)) (by simp), rfl, rfl, y.keep _ _ h2 (notTab_dict rfl) (by simp)⟩
            refine fun Q E qq => tuple_src (T := []) ⟨by simp, fun s'' y => ⟨.ref C, (inst s'' y).type, rfl, rfl⟩, ?_, fun s'' y => ⟨(inst s'' y).type.andThen (looks_findIn (I'.on k y).X hl1), (inst s'' y).type.andThen (looks_findIn (I'.on k y).X hl2)⟩, fun s'' y _ hz Q E q => ?_, ?_⟩ (hO.on x) ⟨.ref C, IA.type, rfl⟩ qq
            · have : s'.heap.objs.size ≠ a := Nat.ne_of_gt (Heap.lt_size h1)
              simp [Builtin.List.listSameRef, this]
            · have low : OLow (s'.heap.objs.size :: O) s'' := fun b hb => (List.mem_cons.mp hb).elim (fun e => by rw [e, hz]; exact Nat.lt_succ_self _) fun e => hO.on (x.tr y) b e
              have r1' : Rep (s'.heap.objs.size :: O) s''.heap (.ref a) (.obj C fs) := (r1.keep (O' := s'.heap.objs.size :: O) (fun _ _ e _ _ => e) fun b o hb e => (List.mem_cons.mp hb).elim (fun q => absurd (Heap.lt_size e) (by rw [q]; exact Nat.lt_irrefl _)) id).on y
              exact iter_own (I'.on k y).X (inst s'' y) hf hfn (iterFn_ok k ok hy hA.d3 (I'.on k y) low r1' fun it s3 U P' y1 y2 y3 y4 y5 => ⟨y5, q it s3 P' U B y1 (y2 _ (.head _)) I'.base (fun b hb => y2 b (.tail _ hb)) (fun u hu => ⟨(y3 u hu).1, .inr (y3 u hu).2⟩) y4⟩)
            · unfold iterFn at hy
              split at hy
              · split at hy
                · split at hy
                  · split at hy
                    · split at hy
                      · split at hy
                        · rename_i hlen
                          cases hy
                          exact hlen
                        · cases hy
                      · cases hy
                    · cases hy
                  · cases hy
                · cases hy
              · cases hy
          · cases hc
        · cases hc
      · cases hc
  · cases hc
end
end Mine
end
section
open PySem PySem.W PyProof.Rows
set_option maxRecDepth 100000
namespace Mine
open Builtin Builtin.Str in
theorem after_intB {M : Model} {A : Around} {E : Value → Shared → Prop} {s : Shared} {w : Writer} {N : Nat} {o : Option Value} {c : Percent} {n : Int} {d : List Nat} {l : List Nat} {p : List Value} {r : List Nat} {f : Nat → List Value × Writer × List Nat → Sem (ForInStep (List Value × Writer × List Nat))} {Q : List Value × Writer × List Nat → Shared → Prop}
    (g : KPc.Good w PySem.Str.empty N) (h1 : c.alt = false) (h2 : c.type = 100 ∨ c.type = 105 ∨ c.type = 117) (h3 : c.prec = none) (hn : 0 ≤ n) (hm : n < 10 ^ 31)
    (hd : d = (PySem.Str.ofString (toString ((n.natAbs : Nat) : Int))).cps.toList) (ho : o = none) (h : ∀ w', KPc.Good w' (PySem.Str.ofString (toString n)) (N + 31) → wpAny M A (forIn l (p, w', r) f) Q E s) :
    wpAny M A (forIn l (p, w.add ⟨(percentInt c (decide (n < 0)) d).toArray⟩ o, r) f) Q E s := by
  have en : ((n.natAbs : Nat) : Int) = n := Int.natAbs_of_nonneg hn
  rw [KPc.int_text c h1 h2 h3 hn, hd, en]
  exact KPc.after_str0 g (toString_length_le hn (by decide) hm) (KPc.obj_none ho) h

open Builtin Builtin.Str in
theorem fmt_d {i : Int} (h0 : 0 ≤ i) (h1 : i < 10 ^ 31) (hl : i.natAbs.log2 < 1920) (hl' : ((i.natAbs : Nat) : Int).natAbs.log2 < 1920) (t u : Tok) : Meets (Builtin.«str.__mod__» ⟨[.str ⟨#[37, 100]⟩ t, .int i u], []⟩) (fun _ R s => ∀ t' k, R (.ok (.ret (.str (PySem.Str.ofString (toString i)) t'))) { s with toks := k }) := by
  apply KPc.meets_of
  intro _ _ _ _ _ _ _
  rw [KPc.entry_is]
  unfold Builtin.Str.percentFormat
  refine wpAny_bind (wpAny_isInstance (typeIs_int _ _ _) F.sub_int_tuple ?_)
  refine wpAny_bind (wpAny_of_eq (a := none) rfl ?_)
  refine wpAny_bind (wpAny_of_eq (KPc.fills _ _) ?_)
  kpc_if
  refine wpAny_bind (wpAny_pure ?_)
  refine wpAny_bind ?_
  rw [KPc.range_list]
  refine KPc.start ?_
  intro _ _
  refine KPc.turn ?_
  kpc_check
  (repeat kpc_if)
  refine wpAny_bind ?_
  refine wpAny_holding ?_
  (repeat kpc_if)
  kpc_conv
  refine wpAny_pure ?_
  refine wpAny_pure ?_
  (refine after_intB (by kpc_g) rfl (by kpc_kind) rfl (by with_reducible assumption) (by with_reducible assumption) rfl (by kpc_none) ?_; intro _ _)
  kpc_turns
set_option maxHeartbeats 0 in

theorem fmt_sd {x : PySem.Str} {n : Int} (hx : x.length ≤ 1000) (h0 : 0 ≤ n) (h1 : n < 10 ^ 10) (t t1 t2 : Tok) (b : Addr) : Meets (Builtin.«str.__mod__» ⟨[.str ⟨#[37, 115, 46, 37, 100]⟩ t, .ref b], []⟩) (fun _ R s => IsTup s.heap b #[.str x t1, .int n t2] ∧ ∀ t' k, R (.ok (.ret (.str (x ++ ⟨#[46]⟩ ++ PySem.Str.ofString (toString n)) t'))) { s with toks := k }) := by
  apply KPt.meets_tup
  intro _ _ _ _ _ _ kptH _
  obtain ⟨kptO, kptG, kptC, kptN, kptD⟩ := kptH
  rw [KPt.entry_is_r]
  unfold Builtin.Str.percentFormat
  refine wpAny_bind (wpAny_isInstance (T := "tuple") ⟨kptO, kptG, kptC⟩ KPt.sub_tt ?_)
  refine wpAny_bind (KPt.asStr_ref kptG kptD ?_)
  refine wpAny_bind (KPt.fills_ref ⟨kptO, kptG, kptC⟩ ?_)
  intro _
  kpc_if
  refine wpAny_bind (wpAny_seqItems kptG kptD ?_)
  refine wpAny_bind (wpAny_pure ?_)
  refine wpAny_bind ?_
  rw [KPc.range_list]
  refine KPc.start ?_
  intro _ _
  refine KPc.turn ?_
  kpc_check
  (repeat kpc_if)
  refine wpAny_bind ?_
  refine wpAny_holding ?_
  (repeat kpc_if)
  kpt_conv
  refine wpAny_pure ?_
  refine wpAny_pure ?_
  refine KPc.after_str0 (K := 1000) (by kpc_g) hx (by kpc_obj) ?_
  intro _ _
  refine KPc.turn ?_
  kpc_check
  (repeat kpc_if)
  refine wpAny_pure ?_
  kpt_piece
  refine KPc.turn ?_
  kpc_check
  (repeat kpc_if)
  refine wpAny_bind ?_
  refine wpAny_holding ?_
  (repeat kpc_if)
  kpt_conv
  refine wpAny_pure ?_
  refine wpAny_pure ?_
  refine KPc.after_int (by kpc_g) rfl (by kpc_kind) rfl h0 h1 rfl (by kpc_none) ?_
  intro _ _
  refine KPc.turn ?_
  kpc_check
  (repeat kpc_if)
  kpc_close
end Mine
end
section
open PySem PySem.W PyProof.Rows
set_option maxRecDepth 100000
namespace Mine

/-- the formats that the program writes -/
noncomputable def binX (K : Frag) (o : Ops) (op : Operator) (a b : D) : Option D := match op, a, b with
  | .Mod, .str f, .int n => if f = ⟨#[37, 100]⟩ ∧ 0 ≤ n ∧ n < 10 ^ 31 then some (.str (Str.ofString (toString n))) else none
  | .Mod, .str f, .tup [.str x, .int n] => if f = ⟨#[37, 115, 46, 37, 100]⟩ ∧ x.length ≤ 1000 ∧ 0 ≤ n ∧ n < 10 ^ 10 then some (.str (x ++ ⟨#[46]⟩ ++ Str.ofString (toString n))) else none
  | _, _, _ => none

section
variable {prog : Program} {w : World} {K : Frag} {B : Nat} (k : Kok K B) {n : Nat} {ops : Ops} (ok : OpsOk prog w K B n ops)
theorem mod_tup {A : Around} {E : Value → Shared → Prop} {s : Shared} {X : Str} {t : Tok} {b : Addr} {its : Array Value} {Q : Value → Shared → Prop} (ht : IsTup s.heap b its)
    (hc : wpAny (model prog w) A (call (.builtin "str.__mod__") [.str X t, .ref b]) (fun v s' => v ≠ .notImplemented ∧ Q v s') E s) : wpAny (model prog w) A (binaryOp .Mod (.str X t) (.ref b)) Q E s :=
  KPt.bin_left (T := "str") (U := "tuple") (op := .Mod) (by decide) (typeIs_str s X t) ht.typeIs F.fills_str_mod KPt.fills_tuple F.slot_str_mod hc
theorem len3 {x y : Str} {c : Nat} (hx : x.length ≤ 1000) (hy : y.length ≤ 1000) : (x ++ ⟨#[c]⟩ ++ y).length ≤ sizeLine := by
  rw [Str.length_append, Str.length_append]
  have h1 : (⟨#[c]⟩ : Str).length = 1 := rfl
  have h2 : (3000 : Nat) ≤ sizeLine := by decide
  omega
theorem len_int {i : Int} {m : Nat} (h0 : 0 ≤ i) (h1 : i < 10 ^ 31) : (Str.ofString (toString i)).length ≤ 31 := toString_length_le h0 (by decide) h1

include k ok in
theorem binX_ok {op : Operator} {a b d : D} (h : binX K ops op a b = some d) {A : Around} {O : List Addr} {s : Shared} {va vb : Value} (hA : Room A (n + 1)) (I : Inv K B s) (hO : OLow O s) (ra : Rep O s.heap va a) (rb : Rep O s.heap vb b) : Gives prog w O A (binaryOp op va vb) s d := by
  unfold binX at h
  intro Q E q
  split at h
  · split at h
    · rename_i f i hc
      obtain ⟨hf, h0, h1⟩ := hc
      cases h
      (first | obtain rfl := ra.inv | obtain ⟨_, rfl⟩ := ra.inv | obtain ⟨_, rfl, _⟩ := ra.inv); (first | obtain rfl := rb.inv | obtain ⟨_, rfl⟩ := rb.inv | obtain ⟨_, rfl, _⟩ := rb.inv)
      exact wpAny_up (KPc.mod_lit (T := Str.ofString (toString i)) hf (shown (N := 2 ^ 1920) (by omega) (by omega) (Int.le_refl _)) (fun hl hl' => fmt_d h0 h1 hl hl' _ _) fun t' k' u => q _ _ (.toks u.2) (.str _ _ (Nat.le_trans (len_int (m := 0) h0 h1) (by decide))))
    · cases h
  · split at h
    · rename_i f x i hc
      obtain ⟨hf, hx, h0, h1⟩ := hc
      cases h
      (first | obtain rfl := ra.inv | obtain ⟨_, rfl⟩ := ra.inv | obtain ⟨_, rfl, _⟩ := ra.inv)
      obtain ⟨b, vs, rfl, _, ht, rs⟩ := rb.tup_inv
      obtain ⟨_, _, rfl, r1, rs⟩ := rs.inv
      obtain ⟨_, _, rfl, r2, rs⟩ := rs.inv
      (first | obtain rfl := rs.inv | obtain ⟨_, rfl⟩ := rs.inv | obtain ⟨_, rfl, _⟩ := rs.inv)
      (first | obtain rfl := r1.inv | obtain ⟨_, rfl⟩ := r1.inv | obtain ⟨_, rfl, _⟩ := r1.inv); (first | obtain rfl := r2.inv | obtain ⟨_, rfl⟩ := r2.inv | obtain ⟨_, rfl, _⟩ := r2.inv)
      subst hf
      refine wpAny_up (mod_tup ht (call_meets F.slot_str_mod (typeIs_str s _ _) F.entry_str_mod (F.args_str_mod_2 _ _) (fmt_sd hx h0 h1 _ _ _ b) ⟨ht, fun t' k' => ⟨(fun e => nomatch e), fun u => ?_⟩⟩))
      exact q _ _ (.toks u.2) (.str _ _ (len3 hx (Nat.le_trans (toString_length_le (k := 10) h0 (by decide) h1) (by decide))))
    · cases h
  · cases h
end
end Mine
end
section
open PySem PySem.W PyProof.Rows
set_option maxRecDepth 100000
namespace Mine

/-- the texts of whole numbers -/
noncomputable def txts : List D → Option (List D)
  | [] => some []
  | .int i :: l => if 0 ≤ i ∧ i < 10 ^ 31 then (txts l).map (D.str (Str.ofString (toString i)) :: ·) else none
  | _ => none
noncomputable def textsX : D → Option D
  | .tup l => if l.length ≤ 1000 then (txts l).map .list else none
  | _ => none
theorem txts_len : ∀ {l r}, txts l = some r → r.length = l.length
  | [], _, h => by cases h; rfl
  | .int i :: l, r, h => by
    unfold txts at h
    split at h
    · obtain ⟨r', h', rfl⟩ := Option.map_eq_some_iff.mp h
      rw [List.length_cons, List.length_cons, txts_len h']
    · cases h
  | .none :: _, _, h => by cases h
  | .notImpl :: _, _, h => by cases h
  | .bool _ :: _, _, h => by cases h
  | .str _ :: _, _, h => by cases h
  | .bytes _ :: _, _, h => by cases h
  | .glob _ :: _, _, h => by cases h
  | .tup _ :: _, _, h => by cases h
  | .list _ :: _, _, h => by cases h
  | .obj _ _ :: _, _, h => by cases h
  | .mtch _ _ _ :: _, _, h => by cases h
  | .iter _ :: _, _, h => by cases h

section
variable {prog : Program} {w : World} {K : Frag} {B : Nat} (k : Kok K B)
variable {A : Around} {z : Nat} {O : List Addr}
theorem snocL {h : Heap} {v : Value} {d : D} : ∀ {vs : List Value} {ds : List D}, RepL O h vs ds → Rep O h v d → RepL O h (vs ++ [v]) (ds ++ [d])
  | [], [], _, r => .cons r .nil
  | _ :: _, _ :: _, .cons a b, r => .cons a (snocL b r)

include k in
theorem texts_loop {R : Result → Shared → Prop} {I Dd C : Addr} {cenv : Env} {x hh : Str} {hp xp cp yp pos : Pos} {it : Expr} {sc : Scope} (he : EnvOk cenv C) (hx : cenv.scope.names.lookup x = some .local) (hdx : (x == ("__debug__" : Str)) = false)
    (hh1 : cenv.scope.names.lookup hh = some .globalImplicit) (hh2 : (hh == ("__debug__" : Str)) = false) (hg : globIn K hh = some (.type "str")) (hID : Dd ≠ I) (hIC : C ≠ I) (hDC : Dd ≠ C) (hzI : z ≤ I) (hzD : z ≤ Dd) (hzC : z ≤ C) (hB : B ≤ z)
    {s₀ s₄ : Shared} {l full : List D} (inv : Inv K B s₄) (hit : IterD prog w A z O [I] l (.ref I) s₄) (hl : s₄.heap.get? Dd = some { cls := .type "list", data := .seq #[] }) {m : Str → Option Value} (hn : s₄.heap.Ns C m) (htx : txts l = some full) (hlen : full.length ≤ 1000)
    (hR : ∀ s' acc' c', Stp [I, Dd, C] s₄ s' → s'.heap.get? Dd = some { cls := .type "list", dict := none, data := .seq acc' c', slots := #[] } → (∀ O h, RepL O h acc'.toList full) → (∃ m, s'.heap.Ns C m) → R (.ok .next) s') :
    codeAny (model prog w) A (.compLoop (.ListComp (.Call (.Name hh hp) [.Name x xp] [] cp) [⟨.Name x yp, it, [], 0⟩] sc pos) 0 (.ref I) (.ref Dd) cenv) R s₄ := by
  refine codeAny_compLoop_list (fun n s => ∃ ds acc accD c m rest, n = ds.length ∧ IterD prog w A z O [I] ds (.ref I) s ∧ s.heap.get? Dd = some { cls := .type "list", dict := none, data := .seq acc c, slots := #[] } ∧ (∀ O h, RepL O h acc.toList accD) ∧ s.heap.Ns C m ∧
    Stp [I, Dd, C] s₄ s ∧ txts ds = some rest ∧ accD ++ rest = full) ?_ l.length ⟨l, #[], [], 0, m, full, rfl, hit, hl, fun _ _ => .nil, hn, .refl _ _, htx, rfl⟩
  rintro n s ⟨ds, acc, accD, c, m, rest, rfl, hit, hl, hacc, hn, st, htx, hfull⟩
  have mU : ∀ {u}, u ∈ [I, Dd, C] → z ≤ u := fun {u} hu => by
    simp only [List.mem_cons, List.not_mem_nil, or_false] at hu
    rcases hu with rfl | rfl | rfl <;> assumption
  cases ds with
  | nil =>
    refine hit s ⟨[], .refl _ _, by simp⟩ _ _ fun s' x => ?_
    cases htx
    rw [List.append_nil] at hfull
    subst hfull
    have y : Stp [I, Dd, C] s s' := x.mono (by simp)
    exact hR s' acc c ((st.trans y).mono (by simp)) (x.keep _ _ hl (notTab_cls rfl (by intro q; cases q)) (by simpa using hID)) hacc ⟨m, nsOn hn x (by simpa using hIC)⟩
  | cons d ds =>
    refine hit s ⟨[], .refl _ _, by simp⟩ _ _ fun v s₁ x₁ rz it₁ => ?_
    cases d with
    | int i =>
      unfold txts at htx
      split at htx
      · rename_i hi
        obtain ⟨rest', hr', rfl⟩ := Option.map_eq_some_iff.mp htx
        have rv := rz O fun b hb => .inl hb
        obtain ⟨t, rfl⟩ := rv.inv
        have hl₁ := x₁.keep _ _ hl (notTab_cls rfl (by intro q; cases q)) (by simpa using hID)
        refine wpAny_assign_Name (wpAny_storeName_local hx (he.loc.symm ▸ nsOn hn x₁ (by simpa using hIC)) (fun h₂ hn₂ hs₂ => ?_) (by rw [he.kind]; rfl))
        rw [he.loc] at hn₂ hs₂
        have x₂ : Stp [C] s₁ { s₁ with heap := h₂, toks := s₁.toks + 1 } := Stp.same hs₂ (Nat.le_succ _)
        have x02 : Stp [I, Dd, C] s₄ { s₁ with heap := h₂, toks := s₁.toks + 1 } := (st.trans (x₁.trans x₂)).mono (by simp)
        have inv₂ := inv.on k x02 fun u hu => Nat.le_trans hB (mU hu)
        have hl₂ := x₂.keep _ _ hl₁ (notTab_cls rfl (by intro q; cases q)) (by simpa using hDC)
        rw [arm_eval_Call_Name']
        refine wpAny_bind (gives_global he inv₂ hh1 hh2 hg ?_)
        refine PyProof.Rows.callWith_type1 (rest := []) (wpAny_items_cons (rest := []) (wpAny_Name (wpAny_loadName_local (m := fun y => if y = x then some (Value.int i t) else m y) (v := .int i t) (s := { s₁ with heap := h₂, toks := s₁.toks + 1 }) he.kind hx (he.loc.symm ▸ hn₂) (if_pos rfl) (wpAny_items_nil ?_)) hdx) rfl) rfl
        refine P.str_of_int (shown (N := 10 ^ 31) (by omega) hi.2 (by decide +kernel)) ?_
        have hsz : acc.size = accD.length := by rw [← Array.length_toList]; exact (hacc [] s.heap).length
        have hlen' : accD.length ≤ 1000 := by rw [← hfull, List.length_append] at hlen; omega
        have x₃ : Stp [] ({ s₁ with heap := h₂, toks := s₁.toks + 1 } : Shared) { s₁ with heap := h₂, toks := s₁.toks + 1 + 1 } := .toks (Nat.le_succ _)
        refine append_at hl₂ (fun h₃ hs₃ hl₃ => ?_) (by rw [hsz]; exact Nat.le_trans hlen' (by decide))
        have x₄ : Stp [Dd] ({ s₁ with heap := h₂, toks := s₁.toks + 1 + 1 } : Shared) { s₁ with heap := h₃, toks := s₁.toks + 1 + 1 } := Stp.same (t := s₁.toks + 1 + 1) hs₃ (Nat.le_refl _)
        have x14 : Stp [C, Dd] s₁ { s₁ with heap := h₃, toks := s₁.toks + 1 + 1 } := (x₂.trans (x₃.trans x₄)).mono (by simp)
        refine ⟨ds.length, Nat.lt_succ_self _, ds, _, accD ++ [.str (Str.ofString (toString i))], c + 1, _, rest', rfl, iterD_away it₁ ⟨_, x14, fun b hb => ?_⟩, hl₃, fun O h => ?_, nsOn hn₂ (x₃.trans x₄) (by simpa using hDC.symm), (x02.trans (x₃.trans x₄)).mono (by simp), hr', by rw [List.append_assoc]; exact hfull⟩
        · simp only [List.mem_cons, List.not_mem_nil, or_false] at hb
          rcases hb with rfl | rfl
          · exact ⟨by simpa using hIC, .inr hzC⟩
          · exact ⟨by simpa using hID, .inr hzD⟩
        · rw [Array.toList_push]
          exact snocL (hacc O h) (.str _ _ (Nat.le_trans (toString_length_le (k := 31) hi.1 (by decide) hi.2) (by decide)))
      · cases htx
    | _ => cases htx

theorem lookup_all {l : List (Str × NameKind)} (h : (l.all fun y => y.2 != .local || l.lookup y.1 == some .local) = true) : ∀ y ∈ l, y.2 = .local → l.lookup y.1 = some .local := fun y hy e => by
  have := List.all_eq_true.mp h y hy
  simpa [e] using this

include k in
theorem textsX_ok {a d : D} (h : textsX a = some d) {O W : List Addr} {s : Shared} {env : Env} {L : Addr} {N : Nat} {ρ : PE} {x y hh : Str} {hp xp cp yp pos : Pos} {it : Expr} {sc : Scope} {n : Nat} (hA : Room A (n + 1)) (he : EnvOk env L) (hs : St K B O W N ρ L s) (hO : OLow O s) (e1 : hh = Str.ofString "str") (e2 : x = y)
    (hc : compOk sc x it = true) (hg : globIn K hh = some (.type "str")) (hit : ∀ s', Stp [] s s' → Gives prog w O A (eval it env) s' a) : Gives prog w O A (eval (.ListComp (.Call (.Name hh hp) [.Name x xp] [] cp) [⟨.Name y yp, it, [], 0⟩] sc pos) env) s d := by
  subst e2
  intro Q E q
  unfold compOk at hc
  simp only [Bool.and_eq_true, beq_iff_eq] at hc
  obtain ⟨⟨⟨⟨⟨⟨hset, hkind⟩, hfc⟩, hloc⟩, hx⟩, hstr⟩, hdb⟩ := hc
  have hfc' := List.all_eq_true.mp hfc
  have hfree : ∀ y ∈ sc.names, y.2 ≠ .free := fun y hy => by have := hfc' y hy; simp at this; exact this.1
  have hcell : ∀ y ∈ sc.names, y.2 ≠ .cell := fun y hy => by have := hfc' y hy; simp at this; exact this.2
  cases a with
  | tup l =>
    have h' : (if l.length ≤ 1000 then (txts l).map D.list else none) = some d := h
    clear h
    have h := h'
    clear h'
    split at h
    · rename_i hlen
      obtain ⟨full, hf, rfl⟩ := Option.map_eq_some_iff.mp h
      refine wpAny_ListComp hfree hkind (lookup_all hloc) (hit s (.refl _ _) _ _ fun v s₁ x₁ r => ?_) (fun x => by cases it <;> first | rfl | cases hset)
      obtain ⟨a, o, vs, m, rfl, ha, ho, hcl, hd, rs⟩ := r.inv
      refine iter_tuple ⟨_, ho, hcl, _, hd⟩ ?_
      refine wpAny_newObj_type (wpAny_newFunctionEnv hcell (by simp) (fun h₁ hns₁ hsb₁ => ?_) hkind)
      have P1 := Stp.push s₁ { cls := .type "tuple_iterator", data := .fields #[.ref a, .int 0 0] }
      have sz1 : (s₁.heap.push { cls := .type "tuple_iterator", data := .fields #[.ref a, .int 0 0] }).objs.size = s₁.heap.objs.size + 1 := Heap.size_push ..
      generalize hH1 : s₁.heap.push { cls := .type "tuple_iterator", data := .fields #[.ref a, .int 0 0] } = H1 at hns₁ hsb₁ P1 sz1 ⊢
      dsimp only at hns₁ hsb₁ ⊢
      have P2 := Stp.push ({ s₁ with heap := H1 } : Shared) { cls := .type "list", data := .seq ([] : List Value).toArray }
      have sz2 : (H1.push { cls := .type "list", data := .seq ([] : List Value).toArray }).objs.size = H1.objs.size + 1 := Heap.size_push ..
      have gD : (H1.push { cls := .type "list", data := .seq ([] : List Value).toArray }).get? H1.objs.size = some { cls := .type "list", data := .seq ([] : List Value).toArray } := Heap.get?_push_size _ rfl
      generalize hH2 : H1.push { cls := .type "list", data := .seq ([] : List Value).toArray } = H2 at hns₁ hsb₁ P2 sz2 gD ⊢
      have P3 := Stp.push ({ s₁ with heap := H2 } : Shared) { cls := .type "dict", data := .dict #[] }
      have P4 : Stp [H2.objs.size] ({ s₁ with heap := H2.push { cls := .type "dict", data := .dict #[] } } : Shared) { s₁ with heap := h₁, toks := s₁.toks + ([] : List (Str × Value)).length } := Stp.same (t := s₁.toks + ([] : List (Str × Value)).length) hsb₁ (Nat.le_refl _)
      have P34 : Stp [] ({ s₁ with heap := H2 } : Shared) { s₁ with heap := h₁, toks := s₁.toks + ([] : List (Str × Value)).length } := (P3.trans P4).cut fun u hu => .inr (by rw [List.nil_append] at hu; rw [List.mem_singleton.mp hu]; exact Nat.le_refl _)
      have P14 := P1.tr (P2.tr P34)
      have hI : H1.get? s₁.heap.objs.size = some { cls := .type "tuple_iterator", data := .fields #[.ref a, .int 0 0] } := by rw [← hH1]; exact Heap.get?_push_size _ rfl
      have hit₁ : IterD prog w A s₁.heap.objs.size O [s₁.heap.objs.size] l (.ref s₁.heap.objs.size) { s₁ with heap := H1 } :=
        iterD_tuple hA.handled (i := 0) ha (Heap.lt_size ho) (.inr (Nat.le_refl _)) (Nat.ne_of_lt (Heap.lt_size ho)) ⟨_, hI, rfl, rfl⟩ (P1.keep _ _ ho (notTab_cls hcl (by intro q; cases q)) (by simp)) hcl hd (RepLZ.on P1 (by simp) (RepLZ.of (by simpa using rs)))
      have hinv := (hs.on k (x₁.tr P14)).inv
      have q1 : (s₁.heap.objs.size : Nat) ≤ H1.objs.size := by rw [sz1]; exact Nat.le_succ _
      have q2 : (s₁.heap.objs.size : Nat) ≤ H2.objs.size := by rw [sz2, sz1]; exact Nat.le_add_right _ 2
      have n1 : (H1.objs.size : Nat) ≠ s₁.heap.objs.size := by rw [sz1]; exact Nat.succ_ne_self _
      have n3 : (H1.objs.size : Nat) ≠ H2.objs.size := by rw [sz2]; exact (Nat.succ_ne_self _).symm
      have n2 : (H2.objs.size : Nat) ≠ s₁.heap.objs.size := fun q => by rw [sz2, sz1] at q; exact absurd q (Nat.ne_of_gt (Nat.lt_add_of_pos_right (by decide : 0 < 2)))
      have loop : codeAny (model prog w) A (.compLoop (.ListComp (.Call (.Name hh hp) [.Name x xp] [] cp) [⟨.Name x yp, it, [], 0⟩] sc pos) 0 (.ref s₁.heap.objs.size) (.ref H1.objs.size) (compEnv sc H2.objs.size env))
          (fun r s' => ∃ m, s'.heap.Ns H2.objs.size m ∧ ∀ h', Heap.SameBut H2.objs.size s'.heap h' →
            match r with | .ok _ => Q (.ref H1.objs.size) { s' with heap := h' } | .error x => wpAny (model prog w) A (passOn "comprehension.variables-let-go" x (compEnv sc H2.objs.size env)) Q E { s' with heap := h' }) { s₁ with heap := h₁, toks := s₁.toks + ([] : List (Str × Value)).length } := by
        have eC : (compEnv sc H2.objs.size env).locals = H2.objs.size := rfl
        refine texts_loop k (z := s₁.heap.objs.size) (O := O) (I := s₁.heap.objs.size) (Dd := H1.objs.size) (C := H2.objs.size) (cenv := compEnv sc H2.objs.size env) (s₀ := s₁) ⟨hkind, he.gl, he.bl, rfl⟩ hx (by simpa using hdb) (by show sc.names.lookup hh = _; rw [e1]; exact hstr) (by rw [e1]; decide) hg n1 n2 n3 (Nat.le_refl _) q1 q2 (hs.on k x₁).inv.base hinv
          (iterD_away hit₁ ⟨[], P2.tr P34, by simp⟩) (P34.keep _ _ gD (notTab_cls rfl (by intro q; cases q)) (by simp)) hns₁ hf (by rw [txts_len hf]; exact hlen) fun s' acc c x' hD' hacc hN => ?_
        obtain ⟨m', hm'⟩ := hN
        refine ⟨m', hm', fun h' hsb' => ?_⟩
        have P5 : Stp [H2.objs.size] s' { s' with heap := h' } := Stp.same (t := s'.toks) hsb' (Nat.le_refl _)
        refine q _ _ (x₁.tr ((P14.trans (x'.trans P5)).cut fun u hu => .inr ?_)) (.list (n := c) (fun hm => ?_) (P5.keep _ _ hD' (notTab_cls rfl (by intro q; cases q)) (by rw [List.mem_singleton]; exact n3)) rfl rfl (hacc O _))
        · simp only [List.nil_append, List.mem_append, List.mem_cons, List.not_mem_nil, or_false] at hu
          rcases hu with (rfl | rfl | rfl) | rfl
          · exact Nat.le_refl _
          · exact q1
          · exact q2
          · exact q2
        · exact absurd ((hO.on x₁) _ hm) (Nat.not_lt.mpr q1)
      refine codeAny_compStart_list loop ?_
      have tI : H1.IsTupleIter s₁.heap.objs.size a 0 := ⟨_, hI, rfl, rfl⟩
      exact wpAny_pyIter_tupleiter (s := { s₁ with heap := h₁, toks := s₁.toks + ([] : List (Str × Value)).length }) (Heap.IsTupleIter.at tI fun o e => by
        have e' := hI.symm.trans e
        cases e'
        exact (P2.tr P34).keep _ _ hI (notTab_cls rfl (by intro q; cases q)) (by simp)) loop
    · cases h
  | _ => cases h
end
end Mine
end
section
open PySem PySem.W PyProof.Rows
set_option maxRecDepth 100000
namespace Mine

/-- the elements of a generator -/
noncomputable def genAll (f : D → Option D) : List D → Option (List D)
  | [] => some []
  | d :: ds => (f d).bind fun e => (genAll f ds).map (e :: ·)
theorem genAll_len {f : D → Option D} : ∀ {l r}, genAll f l = some r → r.length = l.length
  | [], _, h => by cases h; rfl
  | d :: l, r, h => by
    unfold genAll at h
    obtain ⟨e, _, h⟩ := Option.bind_eq_some_iff.mp h
    obtain ⟨r', h', rfl⟩ := Option.map_eq_some_iff.mp h
    rw [List.length_cons, List.length_cons, genAll_len h']

theorem RepP.of {O : List Addr} {h : Heap} {v : Value} {d : D} (r : Rep O h v d) : RepP (· ∈ O) h v d := fun O₂ k => r.keep (fun _ _ e _ _ => e) fun b o hb _ => k b hb

section
variable {prog : Program} {w : World} {K : Frag} {B : Nat} (k : Kok K B) {n : Nat} {ops : Ops} (ok : OpsOk prog w K B n ops)

/-- an iterator over a tuple, whatever the surroundings -/
noncomputable def TupSrc (z : Nat) (O : List Addr) (I : Addr) (ds : List D) (s : Shared) : Prop :=
  ∃ t i items o m, t ∉ O ∧ t < z ∧ (I ∈ O ∨ z ≤ I) ∧ t ≠ I ∧ IsTupIter s.heap I t i ∧ s.heap.get? t = some o ∧ o.cls = .type "tuple" ∧ o.data = .seq items m ∧ RepLZ z O s.heap (items.toList.drop i) ds
theorem TupSrc.away {z : Nat} {O : List Addr} {I : Addr} {ds : List D} {s s' : Shared} (h : TupSrc z O I ds s) (x : Away z O [I] s s') : TupSrc z O I ds s' := by
  obtain ⟨t, i, items, o, m, ht, hz, ha, hta, ⟨oi, h1, h2, h3⟩, ho, hc, hd, rs⟩ := h
  obtain ⟨V, x, hV⟩ := x
  exact ⟨t, i, items, o, m, ht, hz, ha, hta, ⟨oi, x.keep _ _ h1 (notTab_cls h2 (by intro q; cases q)) fun q => (hV I q).1 (by simp), h2, h3⟩, x.keep _ _ ho (notTab_cls hc (by intro q; cases q)) fun q => (hV t q).2.elim ht fun q => absurd hz (Nat.not_lt.mpr q), hc, hd, RepLZ.on x (fun b hb => (hV b hb).2) rs⟩
theorem TupSrc.next {A : Around} {z : Nat} {O : List Addr} {I : Addr} {d : D} {ds : List D} {s : Shared} (h : TupSrc z O I (d :: ds) s) {Q : Option Value → Shared → Prop} {E : Value → Shared → Prop} (q : ∀ v s', Stp [I] s s' → RepZ z O s'.heap v d → TupSrc z O I ds s' → Q (some v) s') :
    wpAny (model prog w) A (pyNext (.ref I)) Q E s := by
  obtain ⟨t, i, items, o, m, ht, hz, ha, hta, hi, ho, hc, hd, rs⟩ := h
  cases e : items.toList.drop i with
  | nil => rw [e] at rs; exact rs.elim
  | cons v vs =>
    rw [e] at rs
    have hlt : i < items.size := by
      rcases Nat.lt_or_ge i items.size with h | h
      · exact h
      · rw [List.drop_eq_nil_of_le (by simpa using h)] at e; cases e
    have hv : items[i]? = some v := by
      have : items.toList[i]? = some v := by
        have := congrArg List.head? e
        rw [List.head?_drop] at this
        exact this
      simpa using this
    have hd' : items.toList.drop (i + 1) = vs := by
      have := congrArg List.tail e
      rw [List.tail_drop] at this
      exact this
    refine next_tuple_item hi ⟨o, ho, hc, m, hd⟩ hv fun h' hi'' hsb => ?_
    have st : Stp [I] s { s with heap := h' } := Stp.same (t := s.toks) hsb (Nat.le_refl _)
    have ua : ∀ b ∈ [I], b ∈ O ∨ z ≤ b := fun b hb => by rw [List.mem_singleton.mp hb]; exact ha
    exact q v _ st (rs.1.on st ua) ⟨t, i + 1, items, o, m, ht, hz, ha, hta, hi'', st.keep _ _ ho (notTab_cls hc (by intro q; cases q)) (by simpa using hta), hc, hd, by rw [hd']; exact RepLZ.on st ua rs.2⟩
theorem TupSrc.stop {A : Around} (hh : A.handled = none) {z : Nat} {O : List Addr} {I : Addr} {s : Shared} (h : TupSrc z O I [] s) {Q : Option Value → Shared → Prop} {E : Value → Shared → Prop} (q : ∀ s', Stp [I] s s' → Q none s') :
    wpAny (model prog w) A (pyNext (.ref I)) Q E s := by
  obtain ⟨t, i, items, o, m, ht, hz, ha, hta, hi, ho, hc, hd, rs⟩ := h
  have hn : items[i]? = none := by
    cases e : items.toList.drop i with
    | nil =>
      have := List.drop_eq_nil_iff.mp e
      simpa using this
    | cons v vs => rw [e] at rs; exact rs.elim
  exact wpAny_up (next_tuple_end hh hi ⟨o, ho, hc, m, hd⟩ hn fun h' he u => q _ (Stp.extBut (t := s.toks) he u))

/-- what stands when an element is handed out -/
noncomputable def genY (O' : List Addr) (U : List Addr) (b : Nat) (all : List D) : Protocol := fun m s₀ v s kap =>
  (∃ e, all[all.length - 1 - m]? = some e ∧ RepP (· ∈ O') s.heap v e) ∧ Stp U s₀ s ∧ ∀ s'', (∃ V, Stp V s s'' ∧ ∀ v ∈ V, v ∉ U ∧ v ∈ O' ∧ b ≤ v) → kap (.send .none) s''
noncomputable def genR (U : List Addr) : GenEnd := fun n s₀ r s₁ => r = .ok .next ∧ (n = 0 ∧ Stp U s₀ s₁)

include k ok in
theorem seg_loop {A : Around} {z : Nat} {O O' : List Addr} {I C : Addr} {cenv : Env} {x : Str} {elt it : Expr} {xp pos : Pos} {sc : Scope} {all : List D} (hh : A.handled = none) (he : EnvOk cenv C) (hsc : ScIs K cenv sc) (hx : sc.names.lookup x = some .local) (hco : sc.isCoroutine = false)
    (hR : Room (A.over (.compLoop (.GeneratorExp elt [⟨.Name x xp, it, [], 0⟩] sc pos) 0 (.ref I) .none cenv) []) n) (hIC : I ≠ C) (hzI : z ≤ I) (hzC : z ≤ C) (hB : B ≤ z) (hI : I ∈ O') (hC : C ∈ O') (hO' : ∀ b ∈ O', b ∈ O ∨ z ≤ b) :
    ∀ {ds es : List D} {s₀ s : Shared} {m : Str → Option Value}, genAll (fun d => ev ⟨sc, ⟨[(x, d)], .none⟩, globIn K, ops⟩ 20 elt) ds = some es → (∃ done, all = done ++ es) → TupSrc z O I ds s → s.heap.Ns C m → Inv K B s → OLow O' s → Stp [I, C] s₀ s →
      Seg (model prog w) A (genR [I, C]) (genY O' [I, C] B all) es.length s₀ (.compLoop (.GeneratorExp elt [⟨.Name x xp, it, [], 0⟩] sc pos) 0 (.ref I) .none cenv)
        ((model prog w).den (.compLoop (.GeneratorExp elt [⟨.Name x xp, it, [], 0⟩] sc pos) 0 (.ref I) .none cenv)) [] s := by
  have hh' : (A.over (.compLoop (.GeneratorExp elt [⟨.Name x xp, it, [], 0⟩] sc pos) 0 (.ref I) .none cenv) []).handled = none := hh
  have uB : ∀ u ∈ [I, C], B ≤ u := fun u hu => by
    simp only [List.mem_cons, List.not_mem_nil, or_false] at hu
    rcases hu with rfl | rfl
    · exact Nat.le_trans hB hzI
    · exact Nat.le_trans hB hzC
  intro ds
  induction ds with
  | nil =>
    intro es s₀ s m hg hall hit hn inv low st
    cases hg
    show Seg _ A _ _ _ s₀ _ ((compTurn (.GeneratorExp elt [⟨.Name x xp, it, [], 0⟩] sc pos) 0 (.ref I) .none cenv).onRaise (leaving cenv)) [] s
    rw [compTurn_gen, Sem.onRaise_eq_wrap]
    refine seg_bind_wrap (wpAny_standAt ?_)
    refine seg_bind_wrap (hit.stop hh' fun s' y => ?_)
    exact seg_end (.ok .next) ⟨rfl, rfl, (st.trans y).mono (by simp)⟩
  | cons d ds ih =>
    intro es s₀ s m hg hall hit hn inv low st
    unfold genAll at hg
    obtain ⟨e, he1, hg⟩ := Option.bind_eq_some_iff.mp hg
    obtain ⟨es', hes, rfl⟩ := Option.map_eq_some_iff.mp hg
    show Seg _ A _ _ _ s₀ _ ((compTurn (.GeneratorExp elt [⟨.Name x xp, it, [], 0⟩] sc pos) 0 (.ref I) .none cenv).onRaise (leaving cenv)) [] s
    rw [compTurn_gen, Sem.onRaise_eq_wrap]
    refine seg_bind_wrap (wpAny_standAt ?_)
    refine seg_bind_wrap (hit.next fun v s₁ x₁ rz it₁ => ?_)
    refine seg_bind_wrap (wpAny_of_eq (rfl : letOwnedTupleGo (.Name x xp) (.ref I) v = pure ()) ?_)
    refine seg_bind_wrap (wpAny_assign_Name (wpAny_storeName_local (by show cenv.scope.names.lookup x = _; rw [hsc.eq]; exact hx) (he.loc.symm ▸ nsOn hn x₁ (by simpa using hIC.symm)) (fun h₂ hn₂ hs₂ => ?_) (by rw [he.kind]; rfl)))
    rw [he.loc] at hn₂ hs₂
    have x₂ : Stp [C] s₁ { s₁ with heap := h₂, toks := s₁.toks + 1 } := Stp.same hs₂ (Nat.le_succ _)
    have x02 : Stp [I, C] s { s₁ with heap := h₂, toks := s₁.toks + 1 } := (x₁.trans x₂).mono (by simp)
    refine seg_bind_wrap (wpAny_pure ?_)
    simp only [if_true]
    have hy : ∀ v, yieldOut cenv v = yieldValue v := fun v => by simp only [yieldOut, hsc.eq, hco, Bool.false_eq_true, if_false]
    simp only [hy]
    rw [Sem.bind_eq_wrap', Sem.bind_eq_wrap', Sem.wrap_wrap, Sem.wrap_wrap]
    have rv : Rep O' s₁.heap v d := rz O' hO'
    have inv₂ := inv.on k x02 uB
    have low₂ := low.on x02
    have sto : St K B O' [C] B ⟨[(x, d)], .none⟩ C { s₁ with heap := h₂, toks := s₁.toks + 1 } := by
      refine ⟨inv₂, ⟨⟨_, hn₂, fun y d' e' => ?_, trivial⟩, .head _, fun a ha => by rw [List.mem_singleton.mp ha]; exact ⟨hC, Nat.le_trans hB hzC⟩⟩, Nat.le_refl _⟩
      have e'' : List.lookup y [(x, d)] = some d' := e'
      rw [List.lookup_cons] at e''
      by_cases hyx : y = x
      · subst hyx
        simp only [beq_self_eq_true] at e''
        cases e''
        exact ⟨v, if_pos rfl, rv.on x₂ fun u hu => by rw [List.mem_singleton.mp hu]; exact hC⟩
      · rw [beq_eq_false_iff_ne.mpr hyx] at e''
        cases e''
    refine seg_wrap (ev_ok (c := ⟨sc, ⟨[(x, d)], .none⟩, globIn K, ops⟩) k ok (fun _ _ e => e) hR he hsc he1 _ sto low₂ _ _ fun y s₄ x₄ ry => ?_)
    have x04 : Stp [I, C] s₀ s₄ := (st.trans (x02.trans x₄)).mono (by simp)
    obtain ⟨done, hd⟩ := hall
    refine seg_at (seg_yield rfl rfl rfl ⟨⟨e, ?_, .of ry⟩, x04, fun s'' aw => ?_⟩)
    · rw [hd]
      simp only [List.length_append, List.length_cons]
      have : done.length + (es'.length + 1) - 1 - es'.length = done.length := by omega
      rw [this, List.getElem?_append_right (Nat.le_refl _), Nat.sub_self]
      rfl
    · obtain ⟨V, y5, hV⟩ := aw
      have y15 := x₂.trans (x₄.trans y5)
      refine seg_again rfl (ih hes ⟨done ++ [e], by rw [hd, List.append_assoc]; rfl⟩ (it₁.away ⟨_, y15, fun u hu => ?_⟩) (nsOn hn₂ (x₄.trans y5) fun hu => ?_) ((inv₂.on k x₄).on k y5 fun u hu => (hV u hu).2.2) ((low₂.on x₄).on y5) (.refl _ _))
      · rcases List.mem_append.mp hu with h | h
        · rw [List.mem_singleton.mp h]
          exact ⟨by simpa using hIC.symm, .inr hzC⟩
        · rw [List.nil_append] at h
          exact ⟨fun q => (hV u h).1 (by rw [List.mem_singleton.mp q]; exact .head _), hO' u (hV u h).2.1⟩
      · rw [List.nil_append] at hu
        exact (hV C hu).1 (.tail _ (.head _))
end
end Mine
end
section
open PySem PySem.W PyProof.Rows
set_option maxRecDepth 100000
namespace Mine

theorem Stp.setGen {s : Shared} {g : Nat} {gs x : GenState} (hg : s.gens[g]? = some gs) (hx : x.bare = true) : Stp [] s (s.setGen g x) :=
  ⟨Nat.le_refl _, fun _ _ e _ _ => e, fun _ _ _ _ z => z, Nat.le_refl _, rfl, ⟨fun a => AllBare.moved a (GenOnlyQ.of (GenOnly.setGen s g x) (setGen_self hg) hx), Nat.le_of_eq (GenOnly.setGen s g x).1.symm⟩, fun _ _ t => t⟩
theorem Stp.growUp {U : List Addr} {s s₁ : Shared} {h' : Heap} (x : Stp U s s₁) (hk : ∀ b o, s₁.heap.get? b = some o → h'.get? b = some o) (hz : s.heap.objs.size ≤ h'.objs.size) : Stp U s { s₁ with heap := h' } :=
  ⟨hz, fun b o e hc hu => hk _ _ (x.keep b o e hc hu), fun H a b c d => (x.old H a b c d).step_keeps hk, x.tok, x.os, x.gens, fun P hP t => (x.tabs P hP t).kept (hk _)⟩

section
variable {prog : Program} {w : World} {K : Frag} {B : Nat} (k : Kok K B) {n : Nat} {ops : Ops} (ok : OpsOk prog w K B n ops)

noncomputable def GenAtD (prog : Program) (w : World) (A : Around) (B : Nat) (a : Addr) (g : Nat) (O' U : List Addr) (all es : List D) (s : Shared) : Prop :=
  s.heap.IsGen a g ∧ ∃ gs, s.gens[g]? = some gs ∧ ∀ s'', (∃ V, Stp V s s'' ∧ ∀ v ∈ V, v ∉ U ∧ v ∈ O' ∧ B ≤ v) → gs.Goes (model prog w) A.in1 (genR U) (genY O' U B all) es.length (.send .none) s''

theorem IsGen_on {V : List Addr} {s s' : Shared} {a : Addr} {g : Nat} (h : s.heap.IsGen a g) (x : Stp V s s') (ha : a ∉ V) : s'.heap.IsGen a g :=
  let ⟨o, nm, qn, ho, hc, r⟩ := h; ⟨o, nm, qn, x.keep _ _ ho (notTab_cls hc (by intro q; cases q)) ha, hc, r⟩

include k in
theorem iterG_gen {A : Around} (hh : A.handled = none) (hroom : A.depth < recursionLimit) {a : Addr} {g : Nat} {O' U : List Addr} {all : List D} (haU : a ∉ U) (haO : a ∉ O') (uO : ∀ u ∈ U, u ∈ O') (uB : ∀ u ∈ U, B ≤ u) :
    ∀ {es : List D} {s₀ : Shared}, (∃ done, all = done ++ es) → Inv K B s₀ → GenAtD prog w A B a g O' U all es s₀ → IterG prog w A (· ∈ O') U B es (.ref a) s₀ := by
  intro es
  induction es with
  | nil =>
    intro s₀ hall inv hg s aw Q E q
    obtain ⟨⟨V, x, hV⟩, eg⟩ := aw
    obtain ⟨hgen, gs, hgs, hgo⟩ := hg
    have haV : a ∉ V := fun m => haO (hV a m).2.1
    have inv' := inv.on k x fun u hu => (hV u hu).2.2
    have hgs' : s.gens[g]? = some gs := by rw [eg]; exact hgs
    have R : Stp [] s (s.setGen g .running) := .setGen hgs' rfl
    refine wpAny_up (wpAny_pyNext_genexpQ (P := fun n s₀ s₁ => n = 0 ∧ Stp U s₀ s₁) hh inv'.lim hroom (IsGen_on hgen x haV) hgs' (hgo _ ⟨V ++ [], x.trans R, fun v hv => hV v (by simpa using hv)⟩) (fun v s₁ gs' hb hv => ?_) (fun s₁ hp h' hk u => ?_))
    · exact (hv.2.2 s₁ ⟨[], .refl _ _, by simp⟩ : False).elim
    · have hz : g < s₁.gens.size := Nat.lt_of_lt_of_le (by rw [Array.getElem?_eq_some_iff] at hgs'; have := hgs'.1; exact Nat.lt_of_lt_of_le this R.gens.2) hp.2.gens.2
      have F : Stp [] s₁ (s₁.setGen g .finished) := .setGen (Array.getElem?_eq_getElem hz) rfl
      have z : Stp U s (s₁.setGen g .finished) := (R.trans (hp.2.trans F)).mono (by simp)
      exact q _ (z.growUp (h' := h') hk u.1)
  | cons e es ih =>
    intro s₀ hall inv hg s aw Q E q
    obtain ⟨⟨V, x, hV⟩, eg⟩ := aw
    obtain ⟨hgen, gs, hgs, hgo⟩ := hg
    have haV : a ∉ V := fun m => haO (hV a m).2.1
    have inv' := inv.on k x fun u hu => (hV u hu).2.2
    have hgs' : s.gens[g]? = some gs := by rw [eg]; exact hgs
    have R : Stp [] s (s.setGen g .running) := .setGen hgs' rfl
    refine wpAny_pyNext_genexpQ (P := fun n s₀ s₁ => n = 0 ∧ Stp U s₀ s₁) hh inv'.lim hroom (IsGen_on hgen x haV) hgs' (hgo _ ⟨V ++ [], x.trans R, fun v hv => hV v (by simpa using hv)⟩) (fun v s₁ gs' hb hv => ?_) (fun s₁ hp h' hk => ?_)
    · obtain ⟨⟨e', he', rv⟩, st, kap⟩ := hv
      have hz : g < s₁.gens.size := Nat.lt_of_lt_of_le (by rw [Array.getElem?_eq_some_iff] at hgs'; have := hgs'.1; exact Nat.lt_of_lt_of_le this R.gens.2) st.gens.2
      have F : Stp [] s₁ (s₁.setGen g gs') := .setGen (Array.getElem?_eq_getElem hz) hb
      have z : Stp U s (s₁.setGen g gs') := (R.trans (st.trans F)).mono (by simp)
      have ee : e' = e := by
        obtain ⟨done, hd⟩ := hall
        rw [hd] at he'
        simp only [List.length_append, List.length_cons] at he'
        have : done.length + (es.length + 1) - 1 - (es.length + 1 - 1) = done.length := by omega
        rw [this, List.getElem?_append_right (Nat.le_refl _), Nat.sub_self] at he'
        cases he'
        rfl
      subst ee
      refine q v _ z rv (ih ?_ (inv'.on k z uB) ⟨IsGen_on (IsGen_on hgen x haV) z haU, gs', setGen_self (Array.getElem?_eq_getElem hz), fun s'' aw => ?_⟩)
      · obtain ⟨done, hd⟩ := hall
        exact ⟨done ++ [e'], by rw [hd, List.append_assoc]; rfl⟩
      · obtain ⟨V', x', hV'⟩ := aw
        exact kap s'' ⟨[] ++ V', F.trans x', fun v hv => hV' v (by simpa using hv)⟩
    · exact absurd hp.1 (Nat.succ_ne_zero _)

include k ok in
theorem seg_start {A : Around} {z : Nat} {O O' : List Addr} {I C : Addr} {cenv : Env} {x : Str} {elt it : Expr} {xp pos : Pos} {sc : Scope} (hh : A.handled = none) (he : EnvOk cenv C) (hsc : ScIs K cenv sc) (hx : sc.names.lookup x = some .local) (hco : sc.isCoroutine = false)
    (hR : Room (A.over (.compLoop (.GeneratorExp elt [⟨.Name x xp, it, [], 0⟩] sc pos) 0 (.ref I) .none cenv) []) n) (hIC : I ≠ C) (hzI : z ≤ I) (hzC : z ≤ C) (hB : B ≤ z) (hI : I ∈ O') (hC : C ∈ O') (hO' : ∀ b ∈ O', b ∈ O ∨ z ≤ b)
    {ds es : List D} {s : Shared} {m : Str → Option Value} (hg : genAll (fun d => ev ⟨sc, ⟨[(x, d)], .none⟩, globIn K, ops⟩ 20 elt) ds = some es) (hit : TupSrc z O I ds s) (hn : s.heap.Ns C m) (inv : Inv K B s) (low : OLow O' s) :
      Seg (model prog w) A (genR [I, C]) (genY O' [I, C] B es) es.length s (.compStart (.GeneratorExp elt [⟨.Name x xp, it, [], 0⟩] sc pos) 0 (.ref I) .none cenv)
        ((model prog w).den (.compStart (.GeneratorExp elt [⟨.Name x xp, it, [], 0⟩] sc pos) 0 (.ref I) .none cenv)) [] s := by
  have loop := seg_loop (s₀ := s) (xp := xp) (pos := pos) (it := it) k ok hh he hsc hx hco hR hIC hzI hzC hB hI hC hO' hg ⟨[], rfl⟩ hit hn inv low (.refl _ _)
  show Seg _ A _ _ _ s _ ((compStart (.GeneratorExp elt [⟨.Name x xp, it, [], 0⟩] sc pos) 0 (.ref I) .none cenv).onRaise (leaving cenv)) [] s
  unfold compStart
  rw [Sem.onRaise_eq_wrap]
  show Seg _ A _ _ _ s _ ((ask >>= _).wrap _ _ _ _) [] s
  refine seg_bind_wrap (wpAny_askSetting ?_)
  split
  · exact seg_again rfl loop
  · obtain ⟨t, i, items, o, m', ht, hz, ha, hta, hi, r⟩ := hit
    have tI : s.heap.IsTupleIter I t i := hi
    refine seg_bind_wrap (wpAny_rule ?_)
    show Seg _ A _ _ _ s _ ((standAt it.pos >>= _).wrap _ _ _ _) [] s
    exact seg_bind_wrap (wpAny_standAt (seg_bind_wrap (wpAny_pyIter_tupleiter tI (seg_again rfl loop))))
end
end Mine
end
section
open PySem PySem.W PyProof.Rows
set_option maxRecDepth 100000
namespace Mine

theorem oldK_table {H h h' : Heap} {P : Addr} {ps more : Array Value} (K : OldK H h) (gH : GoodH H) (hg : gtab P = true) (htP : h.get? P = some (tabObj ps)) (ht' : h'.get? P = some (tabObj (ps ++ more))) (hx : Heap.ExtBut P h h') (hP : P ≠ cStatics) : OldK H h' := by
  refine ⟨fun b o e => ?_, fun b o e => ?_⟩
  · by_cases hb : b = P
    · subst hb
      rcases K.old b o e with x | ⟨t, hc, vs, m₁, hv, x⟩ | ⟨hc, _⟩
      · have e₀ : o = tabObj ps := Option.some.inj (x.symm.trans htP)
        subst e₀
        exact .inr (.inl ⟨gH b hg _ e ⟨rfl, _, rfl⟩, rfl, ps, more, rfl, ht'⟩)
      · have e₀ := Option.some.inj (x.symm.trans htP)
        obtain ⟨oc, od, odt, osl⟩ := o
        dsimp only at hc hv e₀
        injection e₀ with e1 e2 e3 e4
        injection e3 with e3
        subst e1 e2 e4 e3 hv
        exact .inr (.inl ⟨t, rfl, vs, m₁ ++ more, rfl, by rw [ht', Array.append_assoc]⟩)
      · exact (hP hc).elim
    · rcases K.old b o e with x | ⟨t, hc, vs, m₁, hv, x⟩ | ⟨rfl, hc, ⟨o', es, n, ho', r⟩, z⟩
      · exact .inl (hx _ _ hb x)
      · exact .inr (.inl ⟨t, hc, vs, m₁, hv, hx _ _ hb x⟩)
      · exact .inr (.inr ⟨rfl, hc, ⟨o', es, n, hx _ _ hb ho', r⟩, fun key => by rw [OldK.staticOf_congr ((hx _ _ hb ho').trans ho'.symm) key]; exact z key⟩)
  · by_cases hb : b = P
    · exact ⟨_, hb ▸ ht'⟩
    · obtain ⟨o', ho'⟩ := K.there b o e
      exact ⟨o', hx _ _ hb ho'⟩

theorem mem_lookupK : ∀ {K : Frag} {a : Addr} {o : Obj}, K.lookup a = some o → (a, o) ∈ K := mem_of_lookupK

section
variable {prog : Program} {w : World} {K : Frag} {B : Nat} (k : Kok K B) {n : Nat} {ops : Ops} (ok : OpsOk prog w K B n ops)

theorem codeTab_at {v : Value} (h : codeTab K v = true) {s : Shared} (I : Inv K B s) : ∃ c P ps, v = .ref c ∧ gtab P = true ∧ s.heap.IsCode c P ps ∧ s.heap.TableAt c P ps ∧ P ≠ cStatics := by
  unfold codeTab at h
  split at h
  · rename_i c
    split at h
    · rename_i o ho
      obtain ⟨hc, h⟩ := Bool.and_eq_true_iff.mp h
      split at h
      · rename_i vs hd
        split at h
        · rename_i P P' file tf flags tg inF text tt h11 h11' h18 h7 h9 h10
          simp only [Bool.and_eq_true, beq_iff_eq, bne_iff_ne] at h
          obtain ⟨⟨hg, hne⟩, rfl⟩ := h
          have hc' : o.cls = .type "code" := beq_iff_eq.mp hc
          obtain ⟨ps, hP, htr⟩ := I.tabs P (by
            unfold tabsIn
            refine List.mem_filterMap.mpr ⟨(c, o), mem_lookupK ho, ?_⟩
            simp only [hc', hd, h11])
          have hd0 : CodeHd s.heap c P := ⟨o, vs, file, tf, flags, tg, inF, text, tt, I.X _ _ ho, hc', hd, h11, h11', h18, h7, h9, h10, hne⟩
          refine ⟨c, P, ps, rfl, hg, hd0.code hP htr, hd0.tab hP, ?_⟩
          rintro rfl
          obtain ⟨_, ⟨o', es, ep, e, hd', _⟩, _⟩ := I.lim
          rw [hP] at e
          cases e
          cases hd'
        · cases h
      · cases h
    · cases h
  · cases h

theorem genCode_ok {A : Around} {env : Env} (hc : codeTab K env.code = true) {s : Shared} (I : Inv K B s) {pos : Pos} {qual : Str} {sc : Scope} {Q : Value → Shared → Prop} {E : Value → Shared → Prop} (q : ∀ v s', Stp [] s s' → Q v s') :
    wpAny (model prog w) A (genexprCode env pos qual sc) Q E s := by
  obtain ⟨c, P, ps, hv, hg, hcode, htab, hP⟩ := codeTab_at hc I
  cases hf : codeAmong pos ps.toList with
  | some c' => exact wpAny_genexprCode_hit hv hcode hf (q _ _ (.refl _ _))
  | none =>
    refine wpAny_up (wpAny_genexprCodeX hv hcode htab hf fun c' h' tk hx hlo hhi hcode' hrec htab' _ u => q _ _ ?_)
    obtain ⟨o, vs, file, tf, flags, tg, inF, text, tt, op, ho, hd, h11, h2, h7, h9, h10, hop, hpd, htr, hne⟩ := hcode'
    have et : op = tabObj (ps ++ #[rawInt pos.line, rawInt pos.col, .ref c']) := Option.some.inj (hop.symm.trans htab'.2)
    subst et
    cases hpd
    refine ⟨Nat.le_trans hlo (Nat.le_of_lt hhi), fun b o e hnt _ => hx b o (fun q => ?_) e, fun H _ _ gH x => oldK_table x gH hg htab.2 htab'.2 hx hP, u.2, rfl, .refl _, fun P' _ t => ?_⟩
    · subst q
      rw [htab.2] at e
      cases e
      exact hnt ⟨rfl, _, rfl⟩
    · by_cases hb : P' = P
      · subst hb
        exact ⟨_, htab'.2, htr⟩
      · exact t.kept fun o e => hx _ _ hb e

noncomputable def bmodOk (K : Frag) : Bool := match nsIn K mainGlobals "__builtins__" with
  | some (some (.ref bm)) => bm != builtinsNs && (match K.lookup bm with
    | some ⟨c, some d, .plain, _⟩ => c == .type "module" && d == builtinsNs
    | _ => false)
  | _ => false
theorem bmod_ok (h : bmodOk K = true) {A : Around} {s : Shared} (I : Inv K B s) {run : Addr} {Q : Addr → Shared → Prop} {E : Value → Shared → Prop} (q : Q builtinsNs s) : wpAny (model prog w) A (builtinsFor mainGlobals run) Q E s := by
  unfold bmodOk at h
  split at h
  · rename_i bm hb
    obtain ⟨hne, h⟩ := Bool.and_eq_true_iff.mp h
    split at h
    · rename_i c d sl ho
      simp only [Bool.and_eq_true, beq_iff_eq] at h
      obtain ⟨rfl, rfl⟩ := h
      obtain ⟨mg, mb, hg, _⟩ := I.glob
      exact wpAny_builtinsFor hg (mg_of I.X hg hb) (by simpa using hne) (I.X _ _ ho) rfl rfl rfl q
    · cases h
  · cases h

noncomputable def gensX (K : Frag) (o : Ops) (sc : Scope) (x : Str) (elt : Expr) : D → Option D
  | .tup l => if l.length ≤ 900 ∧ bmodOk K = true then (genAll (fun d => ev ⟨sc, ⟨[(x, d)], .none⟩, globIn K, o⟩ 20 elt) l).map .tup else none
  | _ => none

theorem Room.gen {A : Around} {n : Nat} (hA : Room A (n + 1)) {elt : Expr} {gs : List Comprehension} {sc : Scope} {pos : Pos} {it acc : Value} {cenv : Env} : Room (A.in1.in1.in1.in1.over (.compLoop (.GeneratorExp elt gs sc pos) 0 it acc cenv) []) n := by
  obtain ⟨r1, r2, r3, r4, l, r5⟩ := hA
  refine ⟨?_, ?_, r3, ?_, ?_⟩
  · show A.depth + 0 + 1 + 8 * n < _; omega
  · show A.units + 1 + 1 + 1 + 1 + 0 + 3 + 16 * n < _; omega
  · exact r4
  · exact ⟨cenv :: l, by show pushEnvs [cenv] (pushEnvs [] A.frames) = _; rw [r5]; rfl⟩
end
end Mine
end
section
open PySem PySem.W PyProof.Rows
set_option maxRecDepth 100000
namespace Mine

section
variable {prog : Program} {w : World} {K : Frag} {B : Nat} (k : Kok K B) {n : Nat} {ops : Ops} (ok : OpsOk prog w K B n ops)
include k ok in
theorem gensX_ok {sc csc : Scope} {x h : Str} {elt it : Expr} {a d : D} (hx : gensX K ops sc x elt a = some d) {A : Around} {O W : List Addr} {s : Shared} {env : Env} {L : Addr} {N : Nat} {ρ : PE} {hp xp cp pos : Pos} (hA : Room A (n + 1)) (he : EnvOk env L) (hsc : ScIs K env csc)
    (hs : St K B O W N ρ L s) (hO : OLow O s) (hc : genOk csc sc h x it = true) (hg : globIn K h = some (.type "tuple")) (hit : ∀ s', Stp [] s s' → Gives prog w O A (eval it env) s' a) : Gives prog w O A (eval (.Call (.Name h hp) [.GeneratorExp elt [⟨.Name x xp, it, [], 0⟩] sc pos] [] cp) env) s d := by
  intro Q E q
  unfold genOk at hc
  simp only [Bool.and_eq_true, beq_iff_eq, Bool.not_eq_true', bne_iff_ne, Option.isNone_iff_eq_none] at hc
  obtain ⟨⟨⟨⟨⟨⟨⟨⟨⟨⟨⟨hset, hlst⟩, hkind⟩, hco⟩, hfc⟩, h0⟩, hxl⟩, hxd⟩, hx0⟩, hhg⟩, hhd⟩, hc0⟩ := hc
  have hfc' := List.all_eq_true.mp hfc
  have hfree : ∀ y ∈ sc.names, y.2 ≠ .free := fun y hy => by have := hfc' y hy; simp at this; exact this.1
  have hcell : ∀ y ∈ sc.names, y.2 ≠ .cell := fun y hy => by have := hfc' y hy; simp at this; exact this.2
  unfold gensX at hx
  split at hx
  · rename_i l
    split at hx
    · rename_i hl
      obtain ⟨hl, hbm⟩ := hl
      obtain ⟨es, hes, rfl⟩ := Option.map_eq_some_iff.mp hx
      have hlen := genAll_len hes
      rw [arm_eval_Call_Name']
      refine wpAny_bind (gives_global he hs.inv (by rw [hsc.eq]; exact hhg) (by simpa using hhd) hg ?_)
      refine PyProof.Rows.callWith_type1 (rest := []) (wpAny_items_cons (rest := []) (E := E) ?_ rfl) rfl
      refine wpAny_GeneratorExp_make hco (closureFor_none hfree) hcell h0 hkind (by have := hA.depth; omega) ?_ (fun x => by cases it <;> first | rfl | (cases hset; done) | (cases hlst; done))
      refine hit s (.refl _ _) _ _ fun xv s₁ x₁ r => ?_
      obtain ⟨t, o, vs, m, rfl, ha, ho, hcl, hd, rs⟩ := r.inv
      refine iter_tuple ⟨_, ho, hcl, _, hd⟩ ?_
      have P1 := Stp.push s₁ { cls := .type "tuple_iterator", data := .fields #[.ref t, .int 0 0] }
      have sz1 : (s₁.heap.push { cls := .type "tuple_iterator", data := .fields #[.ref t, .int 0 0] }).objs.size = s₁.heap.objs.size + 1 := Heap.size_push ..
      have hI1 : (s₁.heap.push { cls := .type "tuple_iterator", data := .fields #[.ref t, .int 0 0] }).get? s₁.heap.objs.size = some { cls := .type "tuple_iterator", data := .fields #[.ref t, .int 0 0] } := Heap.get?_push_size _ rfl
      have inv1 := (hs.on k x₁).inv
      have inv2 := inv1.on k P1
      have hBz : B ≤ s₁.heap.objs.size := inv1.base
      refine ⟨inv2.lim, ?_⟩
      generalize hH1 : s₁.heap.push { cls := .type "tuple_iterator", data := .fields #[.ref t, .int 0 0] } = H1 at P1 sz1 hI1 inv2 ⊢
      refine genCode_ok (hsc.code hc0) inv2 fun code s₃ x₃ => ?_
      have inv3 := inv2.on k x₃
      rw [he.gl]
      refine bmod_ok hbm inv3 ?_
      intro h' hn' hs'
      -- the state behind the making
      have e1 : s₃.heap.objs.size < h'.objs.size := by rw [hs'.1, Heap.size_push]; exact Nat.lt_succ_self _
      have keep' : ∀ b o, s₃.heap.get? b = some o → h'.get? b = some o := fun b o e => hs'.extBut b o (Nat.ne_of_lt (Heap.lt_size e)) (Heap.get?_push_of_some _ e)
      have hz1 : H1.objs.size ≤ s₃.heap.objs.size := x₃.size
      let C : Addr := s₃.heap.objs.size
      let I : Addr := s₁.heap.objs.size
      let ga : Addr := h'.objs.size
      have hIC : I < C := Nat.lt_of_lt_of_le (by rw [sz1]; exact Nat.lt_succ_self _) hz1
      have hCa : C < ga := e1
      let cenv : Env := genEnv sc [] C code builtinsNs env
      let gs₀ : GenState := .fresh (.compStart (.GeneratorExp elt [⟨.Name x xp, it, [], 0⟩] sc pos) 0 (.ref I) .none cenv)
      let gobj : Obj := { cls := .type "generator", data := .fields #[.int s₃.gens.size 0, .str "<genexpr>" (s₃.toks + 1), .str (env.qual ++ "<genexpr>") (s₃.toks + 1 + 1)] }
      let s₅ : Shared := { s₃ with gens := s₃.gens.push gs₀, toks := s₃.toks + 1 + 1 + 1, heap := h'.push gobj }
      have x5 : Stp [] s₃ s₅ := by
        have k5 : ∀ b o, s₃.heap.get? b = some o → (h'.push gobj).get? b = some o := fun b o e => Heap.get?_push_of_some _ (keep' b o e)
        have z5 : s₃.heap.objs.size ≤ (h'.push gobj).objs.size := by rw [Heap.size_push]; exact Nat.le_of_lt (Nat.lt_succ_of_lt e1)
        exact ⟨z5, fun b o e _ _ => k5 b o e, fun _ _ _ _ z => z.step_keeps k5, Nat.le_add_right _ 3, rfl, ⟨fun z => AllBare.push z rfl, by show _ ≤ (s₃.gens.push gs₀).size; rw [Array.size_push]; exact Nat.le_succ _⟩, fun _ _ z => z.kept (k5 _)⟩
      have x15 : Stp [] s₁ s₅ := P1.tr (x₃.tr x5)
      have inv5 := inv3.on k x5
      have hgen5 : s₅.heap.IsGen ga s₃.gens.size := ⟨gobj, _, _, Heap.get?_push_size _ rfl, rfl, rfl, rfl⟩
      have sz5 : s₅.heap.objs.size = ga + 1 := Heap.size_push ..
      have low5 : OLow O s₅ := (hO.on x₁).on x15
      have hOI : ∀ b ∈ O, b < I := hO.on x₁
      have keepG : ∀ s', Stp [] s₅ s' → s'.heap.IsGen ga s₃.gens.size := fun s' y => IsGen_on hgen5 y (by simp)
      refine Calls.spliced_nil ?_
      have hC5 : s₅.heap.Ns C (fun y => if y = ".0" then some (.ref I) else none) := hn'.push gobj
      have hsrc : Src prog w A.in1.in1.in1 O [I, C] (.ref ga) es s₅ := by
        refine ⟨fun u hu => ?_, fun s' y => ?_, ?_, fun s' y => ?_, fun s' y hge hz Q' E' q' => ?_, by omega⟩
        · simp only [List.mem_cons, List.not_mem_nil, or_false] at hu
          rw [sz5]
          rcases hu with rfl | rfl
          · exact Nat.lt_succ_of_lt (Nat.lt_trans hIC hCa)
          · exact Nat.lt_succ_of_lt hCa
        · obtain ⟨o', nm, qn, ho', hc', _⟩ := keepG s' y
          exact ⟨.type "generator", hc' ▸ (Looks.ld ho').andThen .now, rfl, rfl⟩
        · have : s₅.heap.objs.size ≠ ga := by rw [sz5]; exact Nat.succ_ne_self _
          simp [Builtin.List.listSameRef, this]
        · have ty := keepG s' y
          exact ⟨fun A Q E s k' q => wpAny_specialOf ((ty.keeps k').typeIs) F.gen_no_len q, fun A Q E s k' q => wpAny_specialOf ((ty.keeps k').typeIs) F.gen_no_hint q⟩
        · refine wpAny_pyIter_gen (keepG s' y) ?_
          let S : Addr := s₅.heap.objs.size
          let O' : List Addr := I :: C :: S :: O
          have hCS : C < S := by show C < s₅.heap.objs.size; rw [sz5]; exact Nat.lt_succ_of_lt hCa
          have hO' : ∀ b ∈ O', b ∈ O ∨ I ≤ b := fun b hb => by
            simp only [O', List.mem_cons] at hb
            rcases hb with rfl | rfl | rfl | hb
            · exact .inr (Nat.le_refl _)
            · exact .inr (Nat.le_of_lt hIC)
            · exact .inr (Nat.le_of_lt (Nat.lt_trans hIC hCS))
            · exact .inl hb
          have y1 : Stp [] s₁ s' := x15.tr y
          have uB : ∀ u ∈ [I, C], B ≤ u := fun u hu => by
            simp only [List.mem_cons, List.not_mem_nil, or_false] at hu
            rcases hu with rfl | rfl
            · exact hBz
            · exact Nat.le_trans hBz (Nat.le_of_lt hIC)
          have haU : ga ∉ [I, C] := fun hu => by
            simp only [List.mem_cons, List.not_mem_nil, or_false] at hu
            rcases hu with e | e
            · exact absurd (Nat.lt_trans hIC hCa) (by rw [← e]; exact Nat.lt_irrefl _)
            · exact absurd hCa (by rw [← e]; exact Nat.lt_irrefl _)
          have haO : ga ∉ O' := fun hb => by
            simp only [O', List.mem_cons] at hb
            rcases hb with e | e | e | hb
            · exact haU (e ▸ .head _)
            · exact haU (e ▸ .tail _ (.head _))
            · have e' : ga = ga + 1 := e.trans sz5
              exact absurd e' (Nat.succ_ne_self _).symm
            · exact absurd (hOI _ hb) (Nat.not_lt.mpr (Nat.le_of_lt (Nat.lt_trans hIC hCa)))
          have inv' := inv5.on k y
          have hTO : t ∉ O := ha
          have src' : TupSrc I O I l s' := by
            have P3 : Stp [] ({ s₁ with heap := H1 } : Shared) s' := x₃.tr (x5.tr y)
            exact ⟨t, 0, _, o, _, ha, Heap.lt_size ho, .inr (Nat.le_refl _), Nat.ne_of_lt (Heap.lt_size ho), ⟨_, P3.keep _ _ hI1 (notTab_cls rfl (by intro q; cases q)) (by simp), rfl, rfl⟩, y1.keep _ _ ho (notTab_cls hcl (by intro q; cases q)) (by simp), hcl, hd, by
              rw [List.drop_zero, List.toList_toArray]
              exact RepLZ.on y1 (by simp) (RepLZ.of rs)⟩
          have low' : OLow O' s' := fun b hb => by
            have hS' : S < s'.heap.objs.size := by rw [hz]; exact Nat.lt_succ_self _
            simp only [O', List.mem_cons] at hb
            rcases hb with rfl | rfl | rfl | hb
            · exact Nat.lt_trans (Nat.lt_trans hIC hCS) hS'
            · exact Nat.lt_trans hCS hS'
            · exact hS'
            · exact low5.on y b hb
          have gst : GenAtD prog w A.in1.in1.in1 B ga s₃.gens.size O' [I, C] es es s' := by
            refine ⟨keepG s' y, gs₀, by rw [hge]; exact Array.getElem?_push_size .., fun s'' aw => ⟨rfl, ?_⟩⟩
            obtain ⟨V, z, hV⟩ := aw
            have notC : C ∉ V := fun hm => (hV C hm).1 (.tail _ (.head _))
            refine seg_start (A := A.in1.in1.in1.in1) (O := O) (cenv := cenv) (C := C) k ok hA.handled ⟨hkind, he.gl, rfl, rfl⟩ ⟨rfl, fun e => nomatch (h0.symm.trans e)⟩ hxl hco hA.gen (Nat.ne_of_lt hIC) (Nat.le_refl _) (Nat.le_of_lt hIC) hBz (.head _) (.tail _ (.head _)) hO' hes
              (src'.away ⟨V, z, fun v hv => ⟨fun q => (hV v hv).1 (by rw [List.mem_singleton.mp q]; exact .head _), hO' v (hV v hv).2.1⟩⟩) (nsOn (nsOn hC5 y (by simp)) z notC) (inv'.on k z fun u hu => (hV u hu).2.2) (low'.on z)
          refine q' (.ref ga) s' (· ∈ O') [I, C] B (.refl _ _) (.tail _ (.tail _ (.head _))) (Nat.le_trans (Nat.le_trans hBz (Nat.le_of_lt hIC)) (Nat.le_of_lt hCS)) (fun b hb => .tail _ (.tail _ (.tail _ hb))) (fun u hu => ⟨?_, .inl hu⟩)
            (iterG_gen k (by exact hA.handled) (by show A.depth < _; have := hA.depth; omega) haU haO (fun u hu => ?_) uB ⟨[], rfl⟩ inv' gst)
          · simp only [List.mem_cons, List.not_mem_nil, or_false] at hu
            rcases hu with rfl | rfl
            · exact .head _
            · exact .tail _ (.head _)
          · simp only [List.mem_cons, List.not_mem_nil, or_false] at hu
            rcases hu with rfl | rfl
            · exact .head _
            · exact .tail _ (.head _)
      refine tuple_src hsrc low5 ⟨.type "generator", ?_, rfl⟩ fun v s' z rv => q v s' (x₁.tr ((x15.trans z).cut fun u hu => .inr ?_)) rv
      · obtain ⟨o', nm, qn, ho', hc', _⟩ := hgen5
        exact hc' ▸ (Looks.ld ho').andThen .now
      · simp only [List.nil_append, List.mem_cons, List.not_mem_nil, or_false] at hu
        rcases hu with rfl | rfl
        · exact Nat.le_refl _
        · exact Nat.le_of_lt hIC
    · cases hx
  · cases hx
end
end Mine
end
section
open PySem PySem.W PyProof.Rows
set_option maxRecDepth 100000
namespace Mine

mutual
/-- no object of C in it, none with the names ns -/
noncomputable def clean (C : Addr) (ns : List Str) : D → Bool
  | .none | .notImpl | .bool _ | .int _ | .str _ | .bytes _ | .glob _ | .mtch _ _ _ => true
  | .tup l => cleanL C ns l
  | .list l => cleanL C ns l
  | .iter l => cleanL C ns l
  | .obj C' fs => C' != C && fs.map (·.1) != ns && cleanF C ns fs
noncomputable def cleanL (C : Addr) (ns : List Str) : List D → Bool
  | [] => true
  | d :: l => clean C ns d && cleanL C ns l
noncomputable def cleanF (C : Addr) (ns : List Str) : List (Str × D) → Bool
  | [] => true
  | (_, d) :: l => clean C ns d && cleanF C ns l
end
noncomputable def nmOf (e : DictEntry) : Option Str := match e.key with
  | .str n _ => some n
  | _ => none
theorem map_some_inj : ∀ {a b : List Str}, a.map some = b.map some → a = b
  | [], [], _ => rfl
  | _ :: _, _ :: _, h => by
    simp only [List.map_cons, List.cons.injEq, Option.some.injEq] at h
    rw [h.1, map_some_inj h.2]
  | [], _ :: _, h => by cases h
  | _ :: _, [], h => by cases h
theorem RepF.names {O : List Addr} {h : Heap} : ∀ {es : List DictEntry} {fs : List (Str × D)}, RepF O h es fs → es.map nmOf = (fs.map (·.1)).map some
  | _, _, .nil => rfl
  | _, _, .cons _ b => congrArg (_ :: ·) b.names

section
variable {O O' : List Addr} {h : Heap} {a dx C : Addr} {es : List DictEntry} {n : Nat} {ns : List Str} (hO : ∀ b ∈ O, b ∈ O' ∨ b = a ∨ b = dx) (ha : h.get? a = some (instObj C dx)) (hd : h.get? dx = some (dictOf es n)) (hn : es.map nmOf = ns.map some)
include hO ha hd in
theorem out_of {b : Addr} {o : Obj} {T : String} (hb : b ∉ O') (ho : h.get? b = some o) (hc : o.cls = .type T) (hT : T ≠ "dict") : b ∉ O := fun q => by
  rcases hO b q with x | rfl | rfl
  · exact hb x
  · rw [ha] at ho; cases ho; cases hc
  · rw [hd] at ho; cases ho
    exact hT (Value.type.inj hc).symm
include hO ha hd hn
mutual
theorem Rep.unfilter : ∀ {v : Value} {d : D}, Rep O' h v d → clean C ns d = true → Rep O h v d
  | _, _, .none, _ => .none
  | _, _, .notImpl, _ => .notImpl
  | _, _, .bool b, _ => .bool b
  | _, _, .int i t, _ => .int i t
  | _, _, .str x t hx, _ => .str x t hx
  | _, _, .bytes x t hx, _ => .bytes x t hx
  | _, _, .glob v, _ => .glob v
  | _, _, .tup h1 ho hc hdt hl, e => .tup (out_of hO ha hd h1 ho hc (by decide)) ho hc hdt (hl.unfilter e)
  | _, _, .list h1 ho hc hdt hl, e => .list (out_of hO ha hd h1 ho hc (by decide)) ho hc hdt (hl.unfilter e)
  | _, _, .obj hx hdx ho hod hf, e => by
    unfold clean at e
    simp only [Bool.and_eq_true, bne_iff_ne] at e
    refine .obj (fun q => ?_) (fun q => ?_) ho hod (hf.unfilter e.2)
    · rcases hO _ q with x | rfl | rfl
      · exact hx x
      · rw [ha] at ho
        have := Option.some.inj ho
        injection this with e1 e2
        injection e1 with e1
        exact e.1.1 e1.symm
      · rw [hd] at ho; cases ho
    · rcases hO _ q with x | rfl | rfl
      · exact hdx x
      · rw [ha] at hod; cases hod
      · rw [hd] at hod
        have e1 := Option.some.inj hod
        injection e1 with e1 e2 e3 e4
        injection e3 with e3 e5
        have e2 := congrArg Array.toList e3
        simp only at e2
        have e3 := hf.names
        rw [← e2, hn] at e3
        exact e.1.2 (map_some_inj e3).symm
  | _, _, .mtch h1 h2 ho hc hdi hdt hos hcs hds hx, _ => .mtch (out_of hO ha hd h1 ho hc (by decide)) (out_of hO ha hd h2 hos hcs (by decide)) ho hc hdi hdt hos hcs hds hx
  | _, _, .iter h1 h2 hi hic hid ho hc hdt hl, e => .iter (out_of hO ha hd h1 hi hic (by decide)) (out_of hO ha hd h2 ho hc (by decide)) hi hic hid ho hc hdt (hl.unfilter e)
theorem RepL.unfilter : ∀ {vs : List Value} {ds : List D}, RepL O' h vs ds → cleanL C ns ds = true → RepL O h vs ds
  | _, _, .nil, _ => .nil
  | _, _, .cons r rs, e => by
    unfold cleanL at e
    rw [Bool.and_eq_true] at e
    exact .cons (r.unfilter e.1) (rs.unfilter e.2)
theorem RepF.unfilter : ∀ {vs : List DictEntry} {ds : List (Str × D)}, RepF O' h vs ds → cleanF C ns ds = true → RepF O h vs ds
  | _, _, .nil, _ => .nil
  | _, _, .cons r rs, e => by
    unfold cleanF at e
    rw [Bool.and_eq_true] at e
    exact .cons (r.unfilter e.1) (rs.unfilter e.2)
end
end

section
variable {prog : Program} {w : World} {K : Frag} {B : Nat} (k : Kok K B) {n : Nat} {ops : Ops} (ok : OpsOk prog w K B n ops) {A : Around} (hA : Room A (n + 1))
/-- a method of the object under construction -/
noncomputable def selfX (K : Frag) (ownv : Addr → Option Str) (o : Ops) (C : Addr) (fs : List (Str × D)) (x : Str) (as : List D) (ks : List (Str × D)) : Option D := match instM K C fs x with
  | some (f, true) => (runF K ownv (settable K) o f (.obj C fs :: as) ks).bind fun d => if clean C (fs.map (·.1)) d then some d else none
  | _ => none

include k ok hA in
theorem selfX_ok {ownv : Addr → Option Str} {C : Addr} {fs : List (Str × D)} {x : Str} {as : List D} {ks : List (Str × D)} {d : D} (h : selfX K ownv ops C fs x as ks = some d) {O : List Addr} {s : Shared} {v : Value} (I : Inv K B s) (hO : OLow O s) (rr : SelfAt O s.heap v C fs) (pl : Sem Bool) {Q : Value × List Value → Shared → Prop} {E : Value → Shared → Prop}
    (q : ∀ f first s', Stp [] s s' → CalleeOk prog w O A s' f first as ks d → Q (f, first) s') : wpAny (model prog w) A (getMethod v x pl) Q E s := by
  unfold selfX at h
  split at h
  · rename_i f hi
    obtain ⟨d', hd, h⟩ := Option.bind_eq_some_iff.mp h
    split at h
    · rename_i hcl
      cases h
      refine instM_ok k hi I rr pl (fun _ => q _ _ s (.refl _ _) ?_) fun e => by cases e
      obtain ⟨a, dx, es, n', rfl, hne, h1, h2, rf⟩ := rr
      let O' : List Addr := O.filter fun b => b != a && b != dx
      have sub : ∀ b o, b ∈ O' → s.heap.get? b = some o → b ∈ O := fun b o hb _ => (List.mem_filter.mp hb).1
      have cov : ∀ b ∈ O, b ∈ O' ∨ b = a ∨ b = dx := fun b hb => by
        by_cases e1 : b = a
        · exact .inr (.inl e1)
        · by_cases e2 : b = dx
          · exact .inr (.inr e2)
          · exact .inl (List.mem_filter.mpr ⟨hb, by simp [e1, e2]⟩)
      have na : a ∉ O' := fun m => by have := (List.mem_filter.mp m).2; simp at this
      have nd : dx ∉ O' := fun m => by have := (List.mem_filter.mp m).2; simp at this
      have r' : Rep O' s.heap (.ref a) (.obj C fs) := .obj na nd h1 h2 (rf.keep (fun _ _ e _ _ => e) sub)
      have low' : OLow O' s := fun b hb => hO b (List.mem_filter.mp hb).1
      have cc := callee_fn (firstD := [.obj C fs]) k ok hA hd I low' (.cons r' .nil)
      intro s' y
      obtain ⟨c1, c2⟩ := cc s' y
      refine ⟨c1, fun vs kv ra rk Q E qq => ?_⟩
      have sub' : ∀ b o, b ∈ O' → s'.heap.get? b = some o → b ∈ O := fun b o hb _ => (List.mem_filter.mp hb).1
      refine c2 vs kv (ra.keep (fun _ _ e _ _ => e) sub') (rk.keep (fun _ _ e _ _ => e) sub') Q E fun v s'' z r => qq v s'' z ?_
      have yz := y.tr z
      exact r.unfilter cov (yz.keep _ _ h1 (notTab_cls rfl (by intro q; cases q)) (by simp)) (yz.keep _ _ h2 (notTab_dict rfl) (by simp)) rf.names hcl
    · cases h
  · cases h
end
end Mine
end
section
open PySem PySem.W PyProof.Rows
set_option maxRecDepth 100000
namespace Mine

theorem pa_pat : PlainAttrs "re.Pattern" :=
  ⟨⟨"object.__getattribute__", by rw [typeLookup_type, builtinLookup_eq_fast]; kernel_rfl, (of_decide_eq_true (by first | k_qdec | decide +kernel))⟩, by rw [typeLookup_type, builtinLookup_eq_fast]; kernel_rfl⟩
theorem pa_mat : PlainAttrs "re.Match" :=
  ⟨⟨"object.__getattribute__", by rw [typeLookup_type, builtinLookup_eq_fast]; kernel_rfl, (of_decide_eq_true (by first | k_qdec | decide +kernel))⟩, by rw [typeLookup_type, builtinLookup_eq_fast]; kernel_rfl⟩
theorem slot_match : Slot "re.Pattern" "match" "re.Pattern.match" :=
  .of (owner := "re.Pattern") (n := "match") (by rw [typeLookup_type, builtinLookup_eq_fast]; kernel_rfl) (of_decide_eq_true (by first | k_qdec | decide +kernel)) (of_decide_eq_true (by first | k_qdec | decide +kernel)) (of_decide_eq_true (by first | k_qdec | decide +kernel))
    (.inr (of_decide_eq_true (by first | k_qdec | decide +kernel))) (by rw [isSubtype_type]; kernel_rfl)
theorem slot_groups : Slot "re.Match" "groups" "re.Match.groups" :=
  .of (owner := "re.Match") (n := "groups") (by rw [typeLookup_type, builtinLookup_eq_fast]; kernel_rfl) (of_decide_eq_true (by first | k_qdec | decide +kernel)) (of_decide_eq_true (by first | k_qdec | decide +kernel)) (of_decide_eq_true (by first | k_qdec | decide +kernel))
    (.inr (of_decide_eq_true (by first | k_qdec | decide +kernel))) (by rw [isSubtype_type]; kernel_rfl)
theorem type_match : typeOf (.builtin "re.Pattern.match") = pure (.type "method_descriptor") := by show builtinType _ = _; rw [builtinType_eq_fast]; kernel_rfl
theorem type_groups : typeOf (.builtin "re.Match.groups") = pure (.type "method_descriptor") := by show builtinType _ = _; rw [builtinType_eq_fast]; kernel_rfl
theorem entry_match : entryFor table "re.Pattern.match" = some Builtin.«re.Pattern.match» := PySem.entryFor_of_tree (by kernel_rfl)
theorem entry_groups : entryFor table "re.Match.groups" = some Builtin.«re.Match.groups» := PySem.entryFor_of_tree (by kernel_rfl)
theorem owner_pat : Manifest.owners.lookup (String.ofList ['n', 'r', 'e', 't', 't', 'a', 'P', '.', 'e', 'r'].reverse) = some Manifest.sig_re_Pattern := by kernel_rfl
theorem owner_mat : Manifest.owners.lookup (String.ofList ['h', 'c', 't', 'a', 'M', '.', 'e', 'r'].reverse) = some Manifest.sig_re_Match := by kernel_rfl
theorem args_match (a b : Value) : argsOk "re.Pattern.match" ⟨[a, b], []⟩ := by
  unfold argsOk; rw [signature?_of (id := "re.Pattern.match") (n := ['h', 'c', 't', 'a', 'm']) (o := ['n', 'r', 'e', 't', 't', 'a', 'P', '.', 'e', 'r']) (by kernel_rfl) owner_pat]; kernel_rfl
theorem args_groups (a : Value) : argsOk "re.Match.groups" ⟨[a], []⟩ := by
  unfold argsOk; rw [signature?_of (id := "re.Match.groups") (n := ['s', 'p', 'u', 'o', 'r', 'g']) (o := ['h', 'c', 't', 'a', 'M', '.', 'e', 'r']) (by kernel_rfl) owner_mat]; kernel_rfl
end Mine
end
section
open PySem PySem.W PyProof.Rows
set_option maxRecDepth 100000
namespace Mine.Rx
open PySem.Sre PySem.Sre.M

/-- the program's pattern for a version -/
noncomputable def code : Array Nat := #[14, 4, 0, 5, 4294967295, 6, 0, 17, 0, 24, 9, 1, 4294967295, 13, 4, 8, 10, 0, 1, 17, 1, 16, 46, 17, 2, 24, 9, 1, 4294967295, 13, 4, 8, 10, 0, 1, 17, 3, 16, 46, 17, 4, 24, 9, 1, 4294967295, 13, 4, 8, 10, 0, 1, 17, 5, 23, 26, 0, 1, 16, 45, 17, 6, 24, 16, 1, 4294967295, 13, 11, 9, 0, 67067904, 134217726, 134217726, 0, 0, 0, 0, 0, 1, 17, 7, 18, 23, 26, 0, 1, 16, 43, 17, 8, 24, 16, 1, 4294967295, 13, 11, 9, 0, 67067904, 134217726, 134217726, 0, 0, 0, 0, 0, 1, 17, 9, 18, 6, 5, 1]

noncomputable def isDec (c : Nat) : Bool := Unicode.isDecimal c
noncomputable def cset : Array Nat := #[0, 67067904, 134217726, 134217726, 0, 0, 0, 0]
noncomputable def isChr (c : Nat) : Bool := decide (c < 256) && (cset.getD (c / 32) 0).testBit (c % 32)

theorem cat_dec (c : Nat) : category 10 c = .ok (isDec c) := by
  unfold category
  simp [isDec, Except.map]
theorem acc_dec (i : Nat) (hi : i = 13 ∨ i = 29 ∨ i = 45) (c : Nat) (s : Sre.Seen) : ∃ s', accepts code i c s = .ok (isDec c, s') := by
  have one : accepts code i c s = (do if ← category 10 c then pure (true, (s.add 8).add 65) else .ok (false, ((s.add 8).add 65).add 0)) → ∃ s', accepts code i c s = .ok (isDec c, s') := by
    intro e
    rw [e, cat_dec]
    cases isDec c
    · exact ⟨_, rfl⟩
    · exact ⟨_, rfl⟩
  rcases hi with rfl | rfl | rfl <;> exact one (by with_unfolding_all rfl)
theorem acc_chr (i : Nat) (hi : i = 65 ∨ i = 93) (c : Nat) (s : Sre.Seen) : ∃ s', accepts code i c s = .ok (isChr c, s') := by
  have one : accepts code i c s = (if (decide (c < 256) && (code.getD (i + 2 + (1 + c / 32)) 0).testBit (c % 32)) = true then .ok (true, s.add 9) else .ok (false, (s.add 9).add 0)) ∧ (c < 256 → code.getD (i + 2 + (1 + c / 32)) 0 = cset.getD (c / 32) 0) → ∃ s', accepts code i c s = .ok (isChr c, s') := by
    rintro ⟨e, h⟩
    rw [e]
    unfold isChr
    by_cases hc : c < 256
    · rw [h hc]
      split
      · rename_i h1; rw [h1]; exact ⟨_, rfl⟩
      · rename_i h1; rw [Bool.eq_false_iff.mpr h1]; exact ⟨_, rfl⟩
    · simp only [hc, decide_false, Bool.false_and]
      exact ⟨_, rfl⟩
  have small : c < 256 → c / 32 < 8 := fun h => by omega
  rcases hi with rfl | rfl
  · refine one ⟨by with_unfolding_all rfl, fun h => ?_⟩
    have := small h
    generalize c / 32 = j at this
    have : j = 0 ∨ j = 1 ∨ j = 2 ∨ j = 3 ∨ j = 4 ∨ j = 5 ∨ j = 6 ∨ j = 7 := by omega
    rcases this with rfl | rfl | rfl | rfl | rfl | rfl | rfl | rfl <;> rfl
  · refine one ⟨by with_unfolding_all rfl, fun h => ?_⟩
    have := small h
    generalize c / 32 = j at this
    have : j = 0 ∨ j = 1 ∨ j = 2 ∨ j = 3 ∨ j = 4 ∨ j = 5 ∨ j = 6 ∨ j = 7 := by omega
    rcases this with rfl | rfl | rfl | rfl | rfl | rfl | rfl | rfl <;> rfl

/-- a run of one kind of sign -/
theorem run_ok {text : Array Nat} {i : Nat} {acc : Nat → Bool} (hacc : ∀ c s, ∃ s', accepts code i c s = .ok (acc c, s')) : ∀ (ds rest : List Nat) (N p found : Nat) (s : Sre.Seen), text.toList.drop p = ds ++ rest → (∀ d ∈ ds, acc d = true) → ds.length ≤ N → (N = ds.length ∨ ∃ c r, rest = c :: r ∧ acc c = false) →
    ∃ s', Sre.run code text i N p found s = .ok (found + ds.length, s') := by
  have hd : ∀ {p : Nat} {c : Nat} {r : List Nat}, text.toList.drop p = c :: r → text.getD p 0 = c ∧ text.toList.drop (p + 1) = r := by
    intro p c r h
    have h1 : text.toList[p]? = some c := by rw [← List.head?_drop, h]; rfl
    constructor
    · rw [Array.getD_eq_getD_getElem?, ← Array.getElem?_toList, h1]; rfl
    · rw [← List.tail_drop, h]; rfl
  intro ds
  induction ds with
  | nil =>
    intro rest N p found s e _ _ hN
    cases N with
    | zero => exact ⟨s, rfl⟩
    | succ N =>
      rcases hN with h | ⟨c, r, rfl, hc⟩
      · cases h
      · obtain ⟨h1, _⟩ := hd e
        obtain ⟨s', hs⟩ := hacc c s
        refine ⟨s', ?_⟩
        unfold Sre.run
        rw [h1, hs, hc]
        rfl
  | cons d ds ih =>
    intro rest N p found s e ha hl hN
    cases N with
    | zero => cases hl
    | succ N =>
      obtain ⟨h1, h2⟩ := hd e
      obtain ⟨s', hs⟩ := hacc d s
      obtain ⟨s'', h3⟩ := ih rest N (p + 1) (found + 1) s' h2 (fun x hx => ha x (.tail _ hx)) (by simpa using hl) (hN.imp (fun q => by simpa using q) id)
      refine ⟨s'', ?_⟩
      unfold Sre.run
      rw [h1, hs, ha d (.head _)]
      show Sre.run code text i N (p + 1) (found + 1) s' = _
      rw [h3, List.length_cons]
      congr 2
      omega
end Mine.Rx
end
section
open PySem PySem.W PyProof.Rows
set_option maxRecDepth 100000
namespace Mine.Rx
open PySem.Sre PySem.Sre.M

noncomputable def S (t : Array Nat) (pc pos : Nat) (mk : Array (Option Nat)) (lm li : Int) (lo : Array Loop) (inn : Option Nat) (fr : List Sre.Frame) (w h : Nat) (s : Sre.Seen) : M :=
  { code := code, text := t, lim := t.size, start := 0, lastStart := 0, wholeText := false, mustAdvance := false, pc := pc, pos := pos, handed := h, outermost := true, marks := mk, lastmark := lm, lastindex := li, loops := lo, inner := inn, frames := fr, weight := w, answer := none, seen := s, outcome := none }

noncomputable def To (m : M) (n : Nat) (P : M → Prop) : Prop := ∃ k, k ≤ n ∧ (m.runFor k).outcome.isSome = true ∧ P (m.runFor k)
noncomputable def reseen (m : M) (s : Sre.Seen) : M := { m with seen := s }
theorem to_step {m : M} {n : Nat} {P : M → Prop} (h : m.outcome = none) (k : ∀ s, To (reseen m.step s) n P) : To m (n + 1) P := by
  obtain ⟨j, h1, h2, h3⟩ := k m.step.seen
  refine ⟨j + 1, Nat.succ_le_succ h1, ?_⟩
  have : m.runFor (j + 1) = (reseen m.step m.step.seen).runFor j := by
    show (if m.outcome.isSome then m else M.runFor j m.step) = _
    rw [h]
    rfl
  rw [this]
  exact ⟨h2, h3⟩
theorem to_eq {m : M} {m' : Sre.Seen → M} {n : Nat} {P : M → Prop} (h : m.outcome = none) (e : ∀ s, reseen m.step s = m' s) (k : ∀ s, To (m' s) n P) : To m (n + 1) P := to_step h fun s => by rw [e s]; exact k s

theorem st_rep {t : Array Nat} {pc pos n k : Nat} {mk : Array (Option Nat)} {lm li : Int} {lo : Array Loop} {inn : Option Nat} {fr : List Sre.Frame} {w h : Nat} {s : Sre.Seen} (hpc : pc < 112) (h0 : code.getD pc 0 = 24) (h1 : code.getD (pc + 1) 0 = k) (h2 : code.getD (pc + 2) 0 = 1) (h3 : code.getD (pc + 3) 0 = 4294967295)
    (hn : 1 ≤ n) (hroom : pos + n ≤ t.size) (hsz : t.size ≤ 4294967295) (hrun : ∀ s, ∃ s', Sre.run code t (pc + 4) (t.size - pos) pos 0 s = .ok (n, s')) (hw : w + 1 + ((S t pc (pos + n) mk lm li lo inn fr w h s).keep inn.isSome).marks.size ≤ 16777216) :
    ∃ f s', f.wait = .giveBack ∧ (S t pc pos mk lm li lo inn fr w h s).step = S t (pc + 1 + k) (pos + n) mk lm li lo inn (f :: fr) (w + 1 + ((S t pc (pos + n) mk lm li lo inn fr w h s).keep inn.isSome).marks.size) (pos + n) s' := by
  obtain ⟨s', hs⟩ := hrun (((s.add 24)).add (code.getD (pc + 4) 0))
  refine ⟨{ (S t pc (pos + n) mk lm li lo inn fr w h s').frame .giveBack with count := n, kept := (S t pc (pos + n) mk lm li lo inn fr w h s).keep inn.isSome }, s', rfl, ?_⟩
  have hop : ops[(24 : Nat)]? = some Op.REPEAT_ONE := rfl
  unfold M.step
  have e1 : (S t pc pos mk lm li lo inn fr w h s).outcome.isSome = false := rfl
  rw [e1]
  have e2 : (S t pc pos mk lm li lo inn fr w h s).answer = none := rfl
  simp only [e2, Bool.false_eq_true, if_false]
  have e3 : (S t pc pos mk lm li lo inn fr w h s).pc < (S t pc pos mk lm li lo inn fr w h s).code.size := hpc
  rw [if_pos e3]
  unfold M.exec
  have w0 : (S t pc pos mk lm li lo inn fr w h s).word 0 = 24 := h0
  rw [w0, hop]
  dsimp only
  refine (if_neg (fun q => ?_)).trans ?_
  · have q : ((code.getD (pc + 2) 0 : Nat) : Int) > (t.size : Int) - (pos : Int) := q
    rw [h2] at q
    omega
  · have hN : min (code.getD (pc + 3) 0) ((t.size : Int) - (pos : Int)).toNat = t.size - pos := by rw [h3]; omega
    have hs' : Sre.run code t (pc + 4) (min (code.getD (pc + 3) 0) ((t.size : Int) - (pos : Int)).toNat) pos 0 ((s.add 24).add (code.getD (pc + 4) 0)) = Except.ok (n, s') := by rw [hN]; exact hs
    generalize hG : Sre.run code t (pc + 4) (min (code.getD (pc + 3) 0) ((t.size : Int) - (pos : Int)).toNat) pos 0 ((s.add 24).add (code.getD (pc + 4) 0)) = G at hs'
    have hG' : Sre.run (S t pc pos mk lm li lo inn fr w h s).code (S t pc pos mk lm li lo inn fr w h s).text ((S t pc pos mk lm li lo inn fr w h s).pc + 4) (min (code.getD (pc + 3) 0) ((t.size : Int) - (pos : Int)).toNat) (S t pc pos mk lm li lo inn fr w h s).pos 0 ((s.add 24).add (code.getD (pc + 4) 0)) = G := hG
    subst hs'
    split
    · rename_i why e
      exact nomatch (hG'.symm.trans e : Except.ok _ = Except.error _)
    · rename_i n' s'' e
      have e' : Except.ok (n, s') = Except.ok (n', s'') := hG'.symm.trans e
      cases e'
      refine (if_neg (fun q => ?_)).trans ?_
      · have q : n < code.getD (pc + 2) 0 := q
        rw [h2] at q
        omega
      · have hk : pc + 1 + code.getD (pc + 1) 0 = pc + 1 + k := by rw [h1]
        rw [← hk]
        exact (if_neg (Nat.not_lt.mpr hw))
end Mine.Rx
end
section
open PySem PySem.W PyProof.Rows
set_option maxRecDepth 100000
namespace Mine.Rx
open PySem.Sre PySem.Sre.M

section
variable {t : Array Nat} {pc pos c : Nat} {mk : Array (Option Nat)} {lm li : Int} {lo : Array Loop} {inn : Option Nat} {fr : List Sre.Frame} {w h : Nat} {s s₀ : Sre.Seen}
theorem st_lit (hpc : pc < 112) (h0 : code.getD pc 0 = 16) (h1 : code.getD (pc + 1) 0 = c) (hp : pos < t.size) (hc : t.getD pos 0 = c) : reseen (S t pc pos mk lm li lo inn fr w h s₀).step s = S t (pc + 2) (pos + 1) mk lm li lo inn fr w h s := by
  have hop : ops[(16 : Nat)]? = some Op.LITERAL := rfl
  have e1 : (S t pc pos mk lm li lo inn fr w h s₀).outcome.isSome = false := rfl
  have e2 : (S t pc pos mk lm li lo inn fr w h s₀).answer = none := rfl
  have e3 : (S t pc pos mk lm li lo inn fr w h s₀).pc < (S t pc pos mk lm li lo inn fr w h s₀).code.size := hpc
  have w0 : (S t pc pos mk lm li lo inn fr w h s₀).word 0 = 16 := h0
  have hacc : accepts code pc (t.getD pos 0) (s₀.add 16) = .ok (true, s₀.add 16) := by
    unfold accepts
    rw [h0, hop, h1, hc]
    simp
  have hw : itemWidth code pc = 2 := by
    unfold itemWidth
    rw [h0, hop]
  have : (S t pc pos mk lm li lo inn fr w h s₀).step = S t (pc + itemWidth code pc) (pos + 1) mk lm li lo inn fr w h (s₀.add 16) := by
    unfold M.step
    rw [e1]
    simp only [e2, Bool.false_eq_true, if_false]
    rw [if_pos e3]
    unfold M.exec
    rw [w0, hop]
    dsimp only
    refine (if_neg (fun q => absurd hp (Nat.not_lt.mpr q))).trans ?_
    split
    · rename_i why e
      exact nomatch (hacc.symm.trans e : Except.ok _ = Except.error _)
    · rename_i s' e
      exact nomatch (hacc.symm.trans e : Except.ok (true, _) = Except.ok (false, _))
    · rename_i s' e
      have e' : Except.ok (true, s₀.add 16) = Except.ok (true, s') := hacc.symm.trans e
      cases e'
      rfl
  rw [this, hw]
  rfl
/-- a sign that does not stand here -/
theorem st_litF (hpc : pc < 112) (h0 : code.getD pc 0 = 16) (h1 : code.getD (pc + 1) 0 = c) (hp : t.size ≤ pos ∨ t.getD pos 0 ≠ c) : reseen (S t pc pos mk lm li lo inn fr w h s₀).step s = { S t pc pos mk lm li lo inn fr w h s with answer := some false } := by
  have hop : ops[(16 : Nat)]? = some Op.LITERAL := rfl
  have e1 : (S t pc pos mk lm li lo inn fr w h s₀).outcome.isSome = false := rfl
  have e2 : (S t pc pos mk lm li lo inn fr w h s₀).answer = none := rfl
  have e3 : (S t pc pos mk lm li lo inn fr w h s₀).pc < (S t pc pos mk lm li lo inn fr w h s₀).code.size := hpc
  have w0 : (S t pc pos mk lm li lo inn fr w h s₀).word 0 = 16 := h0
  have : (S t pc pos mk lm li lo inn fr w h s₀).step = { S t pc pos mk lm li lo inn fr w h (s₀.add 16) with answer := some false } := by
    unfold M.step
    rw [e1]
    simp only [e2, Bool.false_eq_true, if_false]
    rw [if_pos e3]
    unfold M.exec
    rw [w0, hop]
    dsimp only
    by_cases hl : t.size ≤ pos
    · exact if_pos (show _ ≥ _ from hl)
    · have hc : t.getD pos 0 ≠ c := hp.resolve_left hl
      have hacc : accepts code pc (t.getD pos 0) (s₀.add 16) = .ok (false, s₀.add 16) := by
        unfold accepts
        rw [h0, hop, h1]
        show Except.ok (t.getD pos 0 == c, _) = _
        rw [beq_eq_false_iff_ne.mpr hc]
      refine (if_neg (fun q => hl q)).trans ?_
      split
      · rename_i why e
        exact nomatch (hacc.symm.trans e : Except.ok _ = Except.error _)
      · rename_i s' e
        have e' : Except.ok (false, s₀.add 16) = Except.ok (false, s') := hacc.symm.trans e
        cases e'
        rfl
      · rename_i s' e
        exact nomatch (hacc.symm.trans e : Except.ok (false, _) = Except.ok (true, _))
  rw [this]
  rfl
end

noncomputable def A10 (a b c d e f g h i j : Option Nat) : Array (Option Nat) := #[a, b, c, d, e, f, g, h, i, j]
section
variable {t : Array Nat} {s : Sre.Seen} {n : Nat} {P : M → Prop}
theorem ph1 {a b c r : List Nat} (hL : t.toList = a ++ 46 :: (b ++ 46 :: (c ++ r))) (ha : ∀ d ∈ a, isDec d = true) (hb : ∀ d ∈ b, isDec d = true) (hc : ∀ d ∈ c, isDec d = true) (la : 1 ≤ a.length) (lb : 1 ≤ b.length) (lc : 1 ≤ c.length) (hr : r = [] ∨ ∃ x y, r = x :: y ∧ isDec x = false) (hd : isDec 46 = false) (hsz : t.size ≤ 4294967295)
    (k : ∀ f₁ f₂ f₃ h s, f₁.wait = .giveBack → f₂.wait = .giveBack → f₃.wait = .giveBack →
      To (S t 53 (a.length + 1 + b.length + 1 + c.length) (A10 (some 0) (some a.length) (some (a.length + 1)) (some (a.length + 1 + b.length)) (some (a.length + 1 + b.length + 1)) (some (a.length + 1 + b.length + 1 + c.length)) none none none none) 5 3 #[] none [f₃, f₂, f₁] 3 h s) n P) :
    To (S t 5 0 (A10 none none none none none none none none none none) (-1) (-1) #[] none [] 0 0 s) (n + 12) P := by
  have hz : t.size = a.length + (b.length + (c.length + r.length + 1) + 1) := by
    rw [← Array.length_toList, hL]
    simp only [List.length_append, List.length_cons]
  have getd : ∀ {p x : Nat} {y : List Nat}, t.toList.drop p = x :: y → t.getD p 0 = x := by
    intro p x y h
    have h1 : t.toList[p]? = some x := by rw [← List.head?_drop, h]; rfl
    rw [Array.getD_eq_getD_getElem?, ← Array.getElem?_toList, h1]; rfl
  have d0 : t.toList.drop 0 = a ++ 46 :: (b ++ 46 :: (c ++ r)) := hL
  have d1 : t.toList.drop a.length = 46 :: (b ++ 46 :: (c ++ r)) := by rw [hL, List.drop_left]
  have d2 : t.toList.drop (a.length + 1) = b ++ 46 :: (c ++ r) := by rw [← List.drop_drop, d1]; rfl
  have d3 : t.toList.drop (a.length + 1 + b.length) = 46 :: (c ++ r) := by rw [← List.drop_drop, d2, List.drop_left]
  have d4 : t.toList.drop (a.length + 1 + b.length + 1) = c ++ r := by rw [← List.drop_drop, d3]; rfl
  refine to_eq (m' := fun s => S t 7 0 (A10 none none none none none none none none none none) (-1) (-1) #[] none [] 0 0 s) rfl (fun s => by rfl) fun s => ?_
  refine to_eq (m' := fun s => S t 9 0 (A10 (some 0) none none none none none none none none none) 0 (-1) #[] none [] 0 0 s) rfl (fun s => by rfl) fun s => ?_
  obtain ⟨f₁, s₁, w₁, e₁⟩ := st_rep (t := t) (pc := 9) (pos := 0) (n := a.length) (k := 9) (mk := A10 (some 0) none none none none none none none none none) (lm := 0) (li := -1) (lo := #[]) (inn := none) (fr := []) (w := 0) (h := 0) (s := s) (by decide) rfl rfl rfl rfl la (by omega) hsz
    (fun s => by have := run_ok (acc_dec 13 (.inl rfl)) a (46 :: (b ++ 46 :: (c ++ r))) (t.size - 0) 0 0 s d0 ha (by omega) (.inr ⟨_, _, rfl, hd⟩); simpa using this) (by show (1 : Nat) ≤ _; decide)
  refine to_eq (m' := fun s => S t 19 (0 + a.length) (A10 (some 0) none none none none none none none none none) 0 (-1) #[] none [f₁] 1 (0 + a.length) s) rfl (fun s => by rw [e₁]; rfl) fun s => ?_
  rw [Nat.zero_add]
  refine to_eq (m' := fun s => S t 21 a.length (A10 (some 0) (some a.length) none none none none none none none none) 1 1 #[] none [f₁] 1 a.length s) rfl (fun s => by kernel_rfl) fun s => ?_
  refine to_eq (m' := fun s => S t 23 (a.length + 1) (A10 (some 0) (some a.length) none none none none none none none none) 1 1 #[] none [f₁] 1 a.length s) rfl (fun s => st_lit (by decide) rfl rfl (by omega) (getd d1)) fun s => ?_
  refine to_eq (m' := fun s => S t 25 (a.length + 1) (A10 (some 0) (some a.length) (some (a.length + 1)) none none none none none none none) 2 1 #[] none [f₁] 1 a.length s) rfl (fun s => by kernel_rfl) fun s => ?_
  obtain ⟨f₂, s₂, w₂, e₂⟩ := st_rep (t := t) (pc := 25) (pos := a.length + 1) (n := b.length) (k := 9) (mk := A10 (some 0) (some a.length) (some (a.length + 1)) none none none none none none none) (lm := 2) (li := 1) (lo := #[]) (inn := none) (fr := [f₁]) (w := 1) (h := a.length) (s := s) (by decide) rfl rfl rfl rfl lb (by omega) hsz
    (fun s => by have := run_ok (acc_dec 29 (.inr (.inl rfl))) b (46 :: (c ++ r)) (t.size - (a.length + 1)) (a.length + 1) 0 s d2 hb (by omega) (.inr ⟨_, _, rfl, hd⟩); simpa using this) (by show (2 : Nat) ≤ _; decide)
  refine to_eq (m' := fun s => S t 35 (a.length + 1 + b.length) (A10 (some 0) (some a.length) (some (a.length + 1)) none none none none none none none) 2 1 #[] none [f₂, f₁] 2 (a.length + 1 + b.length) s) rfl (fun s => by rw [e₂]; rfl) fun s => ?_
  refine to_eq (m' := fun s => S t 37 (a.length + 1 + b.length) (A10 (some 0) (some a.length) (some (a.length + 1)) (some (a.length + 1 + b.length)) none none none none none none) 3 2 #[] none [f₂, f₁] 2 (a.length + 1 + b.length) s) rfl (fun s => by kernel_rfl) fun s => ?_
  refine to_eq (m' := fun s => S t 39 (a.length + 1 + b.length + 1) (A10 (some 0) (some a.length) (some (a.length + 1)) (some (a.length + 1 + b.length)) none none none none none none) 3 2 #[] none [f₂, f₁] 2 (a.length + 1 + b.length) s) rfl (fun s => st_lit (by decide) rfl rfl (by omega) (getd d3)) fun s => ?_
  refine to_eq (m' := fun s => S t 41 (a.length + 1 + b.length + 1) (A10 (some 0) (some a.length) (some (a.length + 1)) (some (a.length + 1 + b.length)) (some (a.length + 1 + b.length + 1)) none none none none none) 4 2 #[] none [f₂, f₁] 2 (a.length + 1 + b.length) s) rfl (fun s => by kernel_rfl) fun s => ?_
  obtain ⟨f₃, s₃, w₃, e₃⟩ := st_rep (t := t) (pc := 41) (pos := a.length + 1 + b.length + 1) (n := c.length) (k := 9) (mk := A10 (some 0) (some a.length) (some (a.length + 1)) (some (a.length + 1 + b.length)) (some (a.length + 1 + b.length + 1)) none none none none none) (lm := 4) (li := 2) (lo := #[]) (inn := none) (fr := [f₂, f₁]) (w := 2) (h := a.length + 1 + b.length) (s := s) (by decide) rfl rfl rfl rfl lc (by omega) hsz
    (fun s => by
      have := run_ok (acc_dec 45 (.inr (.inr rfl))) c r (t.size - (a.length + 1 + b.length + 1)) (a.length + 1 + b.length + 1) 0 s d4 hc (by omega) (by
        rcases hr with rfl | h
        · simp only [List.length_nil] at hz; exact .inl (by omega)
        · exact .inr h)
      simpa using this) (by show (3 : Nat) ≤ _; decide)
  refine to_eq (m' := fun s => S t 51 (a.length + 1 + b.length + 1 + c.length) (A10 (some 0) (some a.length) (some (a.length + 1)) (some (a.length + 1 + b.length)) (some (a.length + 1 + b.length + 1)) none none none none none) 4 2 #[] none [f₃, f₂, f₁] 3 (a.length + 1 + b.length + 1 + c.length) s) rfl (fun s => by rw [e₃]; rfl) fun s => ?_
  refine to_eq (m' := fun s => S t 53 (a.length + 1 + b.length + 1 + c.length) (A10 (some 0) (some a.length) (some (a.length + 1)) (some (a.length + 1 + b.length)) (some (a.length + 1 + b.length + 1)) (some (a.length + 1 + b.length + 1 + c.length)) none none none none) 5 3 #[] none [f₃, f₂, f₁] 3 (a.length + 1 + b.length + 1 + c.length) s) rfl (fun s => by kernel_rfl) fun s => ?_
  exact k f₁ f₂ f₃ _ _ w₁ w₂ w₃
end
end Mine.Rx
end
section
open PySem PySem.W PyProof.Rows
set_option maxRecDepth 100000
namespace Mine.Rx
open PySem.Sre PySem.Sre.M

/-- a frame that hands a yes on -/
noncomputable def Good (f : Sre.Frame) : Prop := f.wait = .giveBack ∨ f.wait = .maxTail ∨ f.wait = .maxMore ∨ f.wait = .closeLoop
section
variable {t : Array Nat} {s : Sre.Seen} {n h pos : Nat} {P : M → Prop} {fr : List Sre.Frame} {x0 x1 x2 x3 x4 x5 x6 x7 : Nat} {l0 : Loop}
theorem getd {p x : Nat} {y : List Nat} (h : t.toList.drop p = x :: y) : t.getD p 0 = x := by
  have h1 : t.toList[p]? = some x := by rw [← List.head?_drop, h]; rfl
  rw [Array.getD_eq_getD_getElem?, ← Array.getElem?_toList, h1]; rfl
theorem ltd {p x : Nat} {y : List Nat} (h : t.toList.drop p = x :: y) : p < t.size := by
  rcases Nat.lt_or_ge p t.size with q | q
  · exact q
  · rw [List.drop_eq_nil_of_le (by rw [Array.length_toList]; exact q)] at h; cases h
theorem szd {p : Nat} {y : List Nat} (h : t.toList.drop p = y) (hp : p ≤ t.size) : t.size = p + y.length := by
  rw [← h, List.length_drop, Array.length_toList]; omega
theorem preN {r : List Nat} (hL : t.toList.drop pos = r) (hr : r = [] ∨ ∃ x y, r = x :: y ∧ x ≠ 45) (hp : pos ≤ t.size)
    (k : ∀ f₁ f₂ l s, Good f₁ → Good f₂ → To (S t 81 pos (A10 (some x0) (some x1) (some x2) (some x3) (some x4) (some x5) none none none none) 5 3 #[l] none (f₁ :: f₂ :: fr) 5 pos s) n P) : To (S t 53 pos (A10 (some x0) (some x1) (some x2) (some x3) (some x4) (some x5) none none none none) 5 3 #[] none fr 3 h s) (n + 4) P := by
  refine to_eq (m' := fun s => S t 80 pos (A10 (some x0) (some x1) (some x2) (some x3) (some x4) (some x5) none none none none) 5 3 #[{ pc := 53, count := -1, began := none, outer := none }] (some 0) ({ wait := .closeLoop, pc := 53, pos := pos, outermost := true, loop := 0 } :: fr) 4 pos s) rfl (fun s => by kernel_rfl) fun s => ?_
  refine to_eq (m' := fun s => S t 57 pos (A10 (some x0) (some x1) (some x2) (some x3) (some x4) (some x5) none none none none) 5 3 #[{ pc := 53, count := 0, began := some pos, outer := none }] (some 0) ({ wait := .maxMore, pc := 81, pos := pos, outermost := true, loop := 0, count := 0, kept := { lastmark := 5, lastindex := 3, whole := true, marks := #[(some x0), (some x1), (some x2), (some x3), (some x4), (some x5)] }, began := none } :: { wait := .closeLoop, pc := 53, pos := pos, outermost := true, loop := 0 } :: fr) 11 pos s) rfl (fun s => by kernel_rfl) fun s => ?_
  refine to_eq (m' := fun s => { S t 57 pos (A10 (some x0) (some x1) (some x2) (some x3) (some x4) (some x5) none none none none) 5 3 #[{ pc := 53, count := 0, began := some pos, outer := none }] (some 0) ({ wait := .maxMore, pc := 81, pos := pos, outermost := true, loop := 0, count := 0, kept := { lastmark := 5, lastindex := 3, whole := true, marks := #[(some x0), (some x1), (some x2), (some x3), (some x4), (some x5)] }, began := none } :: { wait := .closeLoop, pc := 53, pos := pos, outermost := true, loop := 0 } :: fr) 11 pos s with answer := some false }) rfl (fun s => st_litF (c := 45) (by decide) rfl rfl ?_) fun s => ?_
  · rcases hr with rfl | ⟨x, y, rfl, hx⟩
    · have := szd hL hp; exact .inl (Nat.le_of_eq this)
    · exact .inr (by rw [getd hL]; exact hx)
  refine to_eq (m' := fun s => S t 81 pos (A10 (some x0) (some x1) (some x2) (some x3) (some x4) (some x5) none none none none) 5 3 #[{ pc := 53, count := -1, began := none, outer := none }] none ({ wait := .maxTail, pc := 81, pos := pos, outermost := true, loop := 0, count := 0, kept := { lastmark := 5, lastindex := 3, whole := false, marks := #[] } } :: { wait := .closeLoop, pc := 53, pos := pos, outermost := true, loop := 0 } :: fr) 5 pos s) rfl (fun s => by kernel_rfl) fun s => ?_
  exact k _ _ { pc := 53, count := -1, began := none, outer := none } _ (.inr (.inl rfl)) (.inr (.inr (.inr rfl)))

theorem preY {p r : List Nat} (hL : t.toList.drop pos = 45 :: (p ++ r)) (hpc : ∀ d ∈ p, isChr d = true) (lp : 1 ≤ p.length) (hr : r = [] ∨ ∃ x y, r = x :: y ∧ isChr x = false) (hsz : t.size ≤ 4294967295)
    (k : ∀ f₁ f₂ f₃ f₄ l s, Good f₁ → Good f₂ → Good f₃ → Good f₄ → To (S t 81 (pos + 1 + p.length) (A10 (some x0) (some x1) (some x2) (some x3) (some x4) (some x5) (some (pos + 1)) (some (pos + 1 + p.length)) none none) 7 4 #[l] none (f₁ :: f₂ :: f₃ :: f₄ :: fr) 20 (pos + 1 + p.length) s) n P) : To (S t 53 pos (A10 (some x0) (some x1) (some x2) (some x3) (some x4) (some x5) none none none none) 5 3 #[] none fr 3 h s) (n + 7) P := by
  have hlt := ltd hL
  have hz := szd hL (Nat.le_of_lt hlt)
  rw [List.length_cons, List.length_append] at hz
  have d1 : t.toList.drop (pos + 1) = p ++ r := by rw [← List.drop_drop, hL]; rfl
  refine to_eq (m' := fun s => S t 80 pos (A10 (some x0) (some x1) (some x2) (some x3) (some x4) (some x5) none none none none) 5 3 #[{ pc := 53, count := -1, began := none, outer := none }] (some 0) ({ wait := .closeLoop, pc := 53, pos := pos, outermost := true, loop := 0 } :: fr) 4 pos s) rfl (fun s => by kernel_rfl) fun s => ?_
  refine to_eq (m' := fun s => S t 57 pos (A10 (some x0) (some x1) (some x2) (some x3) (some x4) (some x5) none none none none) 5 3 #[{ pc := 53, count := 0, began := some pos, outer := none }] (some 0) ({ wait := .maxMore, pc := 81, pos := pos, outermost := true, loop := 0, count := 0, kept := { lastmark := 5, lastindex := 3, whole := true, marks := #[(some x0), (some x1), (some x2), (some x3), (some x4), (some x5)] }, began := none } :: { wait := .closeLoop, pc := 53, pos := pos, outermost := true, loop := 0 } :: fr) 11 pos s) rfl (fun s => by kernel_rfl) fun s => ?_
  refine to_eq (m' := fun s => S t 59 (pos + 1) (A10 (some x0) (some x1) (some x2) (some x3) (some x4) (some x5) none none none none) 5 3 #[{ pc := 53, count := 0, began := some pos, outer := none }] (some 0) ({ wait := .maxMore, pc := 81, pos := pos, outermost := true, loop := 0, count := 0, kept := { lastmark := 5, lastindex := 3, whole := true, marks := #[(some x0), (some x1), (some x2), (some x3), (some x4), (some x5)] }, began := none } :: { wait := .closeLoop, pc := 53, pos := pos, outermost := true, loop := 0 } :: fr) 11 pos s) rfl (fun s => st_lit (by decide) rfl rfl hlt (getd hL)) fun s => ?_
  refine to_eq (m' := fun s => S t 61 (pos + 1) (A10 (some x0) (some x1) (some x2) (some x3) (some x4) (some x5) (some (pos + 1)) none none none) 6 3 #[{ pc := 53, count := 0, began := some pos, outer := none }] (some 0) ({ wait := .maxMore, pc := 81, pos := pos, outermost := true, loop := 0, count := 0, kept := { lastmark := 5, lastindex := 3, whole := true, marks := #[(some x0), (some x1), (some x2), (some x3), (some x4), (some x5)] }, began := none } :: { wait := .closeLoop, pc := 53, pos := pos, outermost := true, loop := 0 } :: fr) 11 pos s) rfl (fun s => by kernel_rfl) fun s => ?_
  obtain ⟨f₃, s₃, w₃, e₃⟩ := st_rep (t := t) (pc := 61) (pos := pos + 1) (n := p.length) (k := 16) (mk := (A10 (some x0) (some x1) (some x2) (some x3) (some x4) (some x5) (some (pos + 1)) none none none)) (lm := 6) (li := 3) (lo := #[{ pc := 53, count := 0, began := some pos, outer := none }]) (inn := some 0) (fr := { wait := .maxMore, pc := 81, pos := pos, outermost := true, loop := 0, count := 0, kept := { lastmark := 5, lastindex := 3, whole := true, marks := #[(some x0), (some x1), (some x2), (some x3), (some x4), (some x5)] }, began := none } :: { wait := .closeLoop, pc := 53, pos := pos, outermost := true, loop := 0 } :: fr) (w := 11) (h := pos) (s := s) (by decide) rfl rfl rfl rfl lp (by omega) hsz
    (fun s => by
      have := run_ok (acc_chr 65 (.inl rfl)) p r (t.size - (pos + 1)) (pos + 1) 0 s d1 hpc (by omega) (by
        rcases hr with rfl | h
        · simp only [List.length_nil] at hz; exact .inl (by omega)
        · exact .inr h)
      simpa using this) (by show (19 : Nat) ≤ _; decide)
  refine to_eq (m' := fun s => S t 78 (pos + 1 + p.length) (A10 (some x0) (some x1) (some x2) (some x3) (some x4) (some x5) (some (pos + 1)) none none none) 6 3 #[{ pc := 53, count := 0, began := some pos, outer := none }] (some 0) (f₃ :: { wait := .maxMore, pc := 81, pos := pos, outermost := true, loop := 0, count := 0, kept := { lastmark := 5, lastindex := 3, whole := true, marks := #[(some x0), (some x1), (some x2), (some x3), (some x4), (some x5)] }, began := none } :: { wait := .closeLoop, pc := 53, pos := pos, outermost := true, loop := 0 } :: fr) 19 (pos + 1 + p.length) s) rfl (fun s => by rw [e₃]; kernel_rfl) fun s => ?_
  refine to_eq (m' := fun s => S t 80 (pos + 1 + p.length) (A10 (some x0) (some x1) (some x2) (some x3) (some x4) (some x5) (some (pos + 1)) (some (pos + 1 + p.length)) none none) 7 4 #[{ pc := 53, count := 0, began := some pos, outer := none }] (some 0) (f₃ :: { wait := .maxMore, pc := 81, pos := pos, outermost := true, loop := 0, count := 0, kept := { lastmark := 5, lastindex := 3, whole := true, marks := #[(some x0), (some x1), (some x2), (some x3), (some x4), (some x5)] }, began := none } :: { wait := .closeLoop, pc := 53, pos := pos, outermost := true, loop := 0 } :: fr) 19 (pos + 1 + p.length) s) rfl (fun s => by kernel_rfl) fun s => ?_
  refine to_eq (m' := fun s => S t 81 (pos + 1 + p.length) (A10 (some x0) (some x1) (some x2) (some x3) (some x4) (some x5) (some (pos + 1)) (some (pos + 1 + p.length)) none none) 7 4 #[{ pc := 53, count := 0, began := some pos, outer := none }] none ({ wait := .maxTail, pc := 81, pos := pos + 1 + p.length, outermost := true, loop := 0, count := 1, kept := { lastmark := 7, lastindex := 4, whole := false, marks := #[] } } :: f₃ :: { wait := .maxMore, pc := 81, pos := pos, outermost := true, loop := 0, count := 0, kept := { lastmark := 5, lastindex := 3, whole := true, marks := #[(some x0), (some x1), (some x2), (some x3), (some x4), (some x5)] }, began := none } :: { wait := .closeLoop, pc := 53, pos := pos, outermost := true, loop := 0 } :: fr) 20 (pos + 1 + p.length) s) rfl (fun s => by kernel_rfl) fun s => ?_
  exact k _ f₃ _ _ _ _ (.inr (.inl rfl)) (.inl w₃) (.inr (.inr (.inl rfl))) (.inr (.inr (.inr rfl)))
theorem bldAN {r : List Nat} (hL : t.toList.drop pos = r) (hr : r = [] ∨ ∃ x y, r = x :: y ∧ x ≠ 43) (hp : pos ≤ t.size)
    (k : ∀ f₁ f₂ l s, Good f₁ → Good f₂ → To (S t 109 pos (A10 (some x0) (some x1) (some x2) (some x3) (some x4) (some x5) none none none none) 5 3 #[l0, l] none (f₁ :: f₂ :: fr) 7 pos s) n P) : To (S t 81 pos (A10 (some x0) (some x1) (some x2) (some x3) (some x4) (some x5) none none none none) 5 3 #[l0] none fr 5 h s) (n + 4) P := by
  refine to_eq (m' := fun s => S t 108 pos (A10 (some x0) (some x1) (some x2) (some x3) (some x4) (some x5) none none none none) 5 3 #[l0, { pc := 81, count := -1, began := none, outer := none }] (some 1) ({ wait := .closeLoop, pc := 81, pos := pos, outermost := true, loop := 1 } :: fr) 6 pos s) rfl (fun s => by kernel_rfl) fun s => ?_
  refine to_eq (m' := fun s => S t 85 pos (A10 (some x0) (some x1) (some x2) (some x3) (some x4) (some x5) none none none none) 5 3 #[l0, { pc := 81, count := 0, began := some pos, outer := none }] (some 1) ({ wait := .maxMore, pc := 109, pos := pos, outermost := true, loop := 1, count := 0, kept := { lastmark := 5, lastindex := 3, whole := true, marks := #[(some x0), (some x1), (some x2), (some x3), (some x4), (some x5)] }, began := none } :: { wait := .closeLoop, pc := 81, pos := pos, outermost := true, loop := 1 } :: fr) 13 pos s) rfl (fun s => by kernel_rfl) fun s => ?_
  refine to_eq (m' := fun s => { S t 85 pos (A10 (some x0) (some x1) (some x2) (some x3) (some x4) (some x5) none none none none) 5 3 #[l0, { pc := 81, count := 0, began := some pos, outer := none }] (some 1) ({ wait := .maxMore, pc := 109, pos := pos, outermost := true, loop := 1, count := 0, kept := { lastmark := 5, lastindex := 3, whole := true, marks := #[(some x0), (some x1), (some x2), (some x3), (some x4), (some x5)] }, began := none } :: { wait := .closeLoop, pc := 81, pos := pos, outermost := true, loop := 1 } :: fr) 13 pos s with answer := some false }) rfl (fun s => st_litF (c := 43) (by decide) rfl rfl ?_) fun s => ?_
  · rcases hr with rfl | ⟨x, y, rfl, hx⟩
    · have := szd hL hp; exact .inl (Nat.le_of_eq this)
    · exact .inr (by rw [getd hL]; exact hx)
  refine to_eq (m' := fun s => S t 109 pos (A10 (some x0) (some x1) (some x2) (some x3) (some x4) (some x5) none none none none) 5 3 #[l0, { pc := 81, count := -1, began := none, outer := none }] none ({ wait := .maxTail, pc := 109, pos := pos, outermost := true, loop := 1, count := 0, kept := { lastmark := 5, lastindex := 3, whole := false, marks := #[] } } :: { wait := .closeLoop, pc := 81, pos := pos, outermost := true, loop := 1 } :: fr) 7 pos s) rfl (fun s => by kernel_rfl) fun s => ?_
  exact k _ _ { pc := 81, count := -1, began := none, outer := none } _ (.inr (.inl rfl)) (.inr (.inr (.inr rfl)))

theorem bldAY {p r : List Nat} (hL : t.toList.drop pos = 43 :: (p ++ r)) (hpc : ∀ d ∈ p, isChr d = true) (lp : 1 ≤ p.length) (hr : r = [] ∨ ∃ x y, r = x :: y ∧ isChr x = false) (hsz : t.size ≤ 4294967295)
    (k : ∀ f₁ f₂ f₃ f₄ l s, Good f₁ → Good f₂ → Good f₃ → Good f₄ → To (S t 109 (pos + 1 + p.length) (A10 (some x0) (some x1) (some x2) (some x3) (some x4) (some x5) none none (some (pos + 1)) (some (pos + 1 + p.length))) 9 5 #[l0, l] none (f₁ :: f₂ :: f₃ :: f₄ :: fr) 24 (pos + 1 + p.length) s) n P) : To (S t 81 pos (A10 (some x0) (some x1) (some x2) (some x3) (some x4) (some x5) none none none none) 5 3 #[l0] none fr 5 h s) (n + 7) P := by
  have hlt := ltd hL
  have hz := szd hL (Nat.le_of_lt hlt)
  rw [List.length_cons, List.length_append] at hz
  have d1 : t.toList.drop (pos + 1) = p ++ r := by rw [← List.drop_drop, hL]; rfl
  refine to_eq (m' := fun s => S t 108 pos (A10 (some x0) (some x1) (some x2) (some x3) (some x4) (some x5) none none none none) 5 3 #[l0, { pc := 81, count := -1, began := none, outer := none }] (some 1) ({ wait := .closeLoop, pc := 81, pos := pos, outermost := true, loop := 1 } :: fr) 6 pos s) rfl (fun s => by kernel_rfl) fun s => ?_
  refine to_eq (m' := fun s => S t 85 pos (A10 (some x0) (some x1) (some x2) (some x3) (some x4) (some x5) none none none none) 5 3 #[l0, { pc := 81, count := 0, began := some pos, outer := none }] (some 1) ({ wait := .maxMore, pc := 109, pos := pos, outermost := true, loop := 1, count := 0, kept := { lastmark := 5, lastindex := 3, whole := true, marks := #[(some x0), (some x1), (some x2), (some x3), (some x4), (some x5)] }, began := none } :: { wait := .closeLoop, pc := 81, pos := pos, outermost := true, loop := 1 } :: fr) 13 pos s) rfl (fun s => by kernel_rfl) fun s => ?_
  refine to_eq (m' := fun s => S t 87 (pos + 1) (A10 (some x0) (some x1) (some x2) (some x3) (some x4) (some x5) none none none none) 5 3 #[l0, { pc := 81, count := 0, began := some pos, outer := none }] (some 1) ({ wait := .maxMore, pc := 109, pos := pos, outermost := true, loop := 1, count := 0, kept := { lastmark := 5, lastindex := 3, whole := true, marks := #[(some x0), (some x1), (some x2), (some x3), (some x4), (some x5)] }, began := none } :: { wait := .closeLoop, pc := 81, pos := pos, outermost := true, loop := 1 } :: fr) 13 pos s) rfl (fun s => st_lit (by decide) rfl rfl hlt (getd hL)) fun s => ?_
  refine to_eq (m' := fun s => S t 89 (pos + 1) (A10 (some x0) (some x1) (some x2) (some x3) (some x4) (some x5) none none (some (pos + 1)) none) 8 3 #[l0, { pc := 81, count := 0, began := some pos, outer := none }] (some 1) ({ wait := .maxMore, pc := 109, pos := pos, outermost := true, loop := 1, count := 0, kept := { lastmark := 5, lastindex := 3, whole := true, marks := #[(some x0), (some x1), (some x2), (some x3), (some x4), (some x5)] }, began := none } :: { wait := .closeLoop, pc := 81, pos := pos, outermost := true, loop := 1 } :: fr) 13 pos s) rfl (fun s => by kernel_rfl) fun s => ?_
  obtain ⟨f₃, s₃, w₃, e₃⟩ := st_rep (t := t) (pc := 89) (pos := pos + 1) (n := p.length) (k := 16) (mk := (A10 (some x0) (some x1) (some x2) (some x3) (some x4) (some x5) none none (some (pos + 1)) none)) (lm := 8) (li := 3) (lo := #[l0, { pc := 81, count := 0, began := some pos, outer := none }]) (inn := some 1) (fr := { wait := .maxMore, pc := 109, pos := pos, outermost := true, loop := 1, count := 0, kept := { lastmark := 5, lastindex := 3, whole := true, marks := #[(some x0), (some x1), (some x2), (some x3), (some x4), (some x5)] }, began := none } :: { wait := .closeLoop, pc := 81, pos := pos, outermost := true, loop := 1 } :: fr) (w := 13) (h := pos) (s := s) (by decide) rfl rfl rfl rfl lp (by omega) hsz
    (fun s => by
      have := run_ok (acc_chr 93 (.inr rfl)) p r (t.size - (pos + 1)) (pos + 1) 0 s d1 hpc (by omega) (by
        rcases hr with rfl | h
        · simp only [List.length_nil] at hz; exact .inl (by omega)
        · exact .inr h)
      simpa using this) (by show (23 : Nat) ≤ _; decide)
  refine to_eq (m' := fun s => S t 106 (pos + 1 + p.length) (A10 (some x0) (some x1) (some x2) (some x3) (some x4) (some x5) none none (some (pos + 1)) none) 8 3 #[l0, { pc := 81, count := 0, began := some pos, outer := none }] (some 1) (f₃ :: { wait := .maxMore, pc := 109, pos := pos, outermost := true, loop := 1, count := 0, kept := { lastmark := 5, lastindex := 3, whole := true, marks := #[(some x0), (some x1), (some x2), (some x3), (some x4), (some x5)] }, began := none } :: { wait := .closeLoop, pc := 81, pos := pos, outermost := true, loop := 1 } :: fr) 23 (pos + 1 + p.length) s) rfl (fun s => by rw [e₃]; kernel_rfl) fun s => ?_
  refine to_eq (m' := fun s => S t 108 (pos + 1 + p.length) (A10 (some x0) (some x1) (some x2) (some x3) (some x4) (some x5) none none (some (pos + 1)) (some (pos + 1 + p.length))) 9 5 #[l0, { pc := 81, count := 0, began := some pos, outer := none }] (some 1) (f₃ :: { wait := .maxMore, pc := 109, pos := pos, outermost := true, loop := 1, count := 0, kept := { lastmark := 5, lastindex := 3, whole := true, marks := #[(some x0), (some x1), (some x2), (some x3), (some x4), (some x5)] }, began := none } :: { wait := .closeLoop, pc := 81, pos := pos, outermost := true, loop := 1 } :: fr) 23 (pos + 1 + p.length) s) rfl (fun s => by kernel_rfl) fun s => ?_
  refine to_eq (m' := fun s => S t 109 (pos + 1 + p.length) (A10 (some x0) (some x1) (some x2) (some x3) (some x4) (some x5) none none (some (pos + 1)) (some (pos + 1 + p.length))) 9 5 #[l0, { pc := 81, count := 0, began := some pos, outer := none }] none ({ wait := .maxTail, pc := 109, pos := pos + 1 + p.length, outermost := true, loop := 1, count := 1, kept := { lastmark := 9, lastindex := 5, whole := false, marks := #[] } } :: f₃ :: { wait := .maxMore, pc := 109, pos := pos, outermost := true, loop := 1, count := 0, kept := { lastmark := 5, lastindex := 3, whole := true, marks := #[(some x0), (some x1), (some x2), (some x3), (some x4), (some x5)] }, began := none } :: { wait := .closeLoop, pc := 81, pos := pos, outermost := true, loop := 1 } :: fr) 24 (pos + 1 + p.length) s) rfl (fun s => by kernel_rfl) fun s => ?_
  exact k _ f₃ _ _ _ _ (.inr (.inl rfl)) (.inl w₃) (.inr (.inr (.inl rfl))) (.inr (.inr (.inr rfl)))
theorem bldBN {r : List Nat} (hL : t.toList.drop pos = r) (hr : r = [] ∨ ∃ x y, r = x :: y ∧ x ≠ 43) (hp : pos ≤ t.size)
    (k : ∀ f₁ f₂ l s, Good f₁ → Good f₂ → To (S t 109 pos (A10 (some x0) (some x1) (some x2) (some x3) (some x4) (some x5) (some x6) (some x7) none none) 7 4 #[l0, l] none (f₁ :: f₂ :: fr) 22 pos s) n P) : To (S t 81 pos (A10 (some x0) (some x1) (some x2) (some x3) (some x4) (some x5) (some x6) (some x7) none none) 7 4 #[l0] none fr 20 h s) (n + 4) P := by
  refine to_eq (m' := fun s => S t 108 pos (A10 (some x0) (some x1) (some x2) (some x3) (some x4) (some x5) (some x6) (some x7) none none) 7 4 #[l0, { pc := 81, count := -1, began := none, outer := none }] (some 1) ({ wait := .closeLoop, pc := 81, pos := pos, outermost := true, loop := 1 } :: fr) 21 pos s) rfl (fun s => by kernel_rfl) fun s => ?_
  refine to_eq (m' := fun s => S t 85 pos (A10 (some x0) (some x1) (some x2) (some x3) (some x4) (some x5) (some x6) (some x7) none none) 7 4 #[l0, { pc := 81, count := 0, began := some pos, outer := none }] (some 1) ({ wait := .maxMore, pc := 109, pos := pos, outermost := true, loop := 1, count := 0, kept := { lastmark := 7, lastindex := 4, whole := true, marks := #[(some x0), (some x1), (some x2), (some x3), (some x4), (some x5), (some x6), (some x7)] }, began := none } :: { wait := .closeLoop, pc := 81, pos := pos, outermost := true, loop := 1 } :: fr) 30 pos s) rfl (fun s => by kernel_rfl) fun s => ?_
  refine to_eq (m' := fun s => { S t 85 pos (A10 (some x0) (some x1) (some x2) (some x3) (some x4) (some x5) (some x6) (some x7) none none) 7 4 #[l0, { pc := 81, count := 0, began := some pos, outer := none }] (some 1) ({ wait := .maxMore, pc := 109, pos := pos, outermost := true, loop := 1, count := 0, kept := { lastmark := 7, lastindex := 4, whole := true, marks := #[(some x0), (some x1), (some x2), (some x3), (some x4), (some x5), (some x6), (some x7)] }, began := none } :: { wait := .closeLoop, pc := 81, pos := pos, outermost := true, loop := 1 } :: fr) 30 pos s with answer := some false }) rfl (fun s => st_litF (c := 43) (by decide) rfl rfl ?_) fun s => ?_
  · rcases hr with rfl | ⟨x, y, rfl, hx⟩
    · have := szd hL hp; exact .inl (Nat.le_of_eq this)
    · exact .inr (by rw [getd hL]; exact hx)
  refine to_eq (m' := fun s => S t 109 pos (A10 (some x0) (some x1) (some x2) (some x3) (some x4) (some x5) (some x6) (some x7) none none) 7 4 #[l0, { pc := 81, count := -1, began := none, outer := none }] none ({ wait := .maxTail, pc := 109, pos := pos, outermost := true, loop := 1, count := 0, kept := { lastmark := 7, lastindex := 4, whole := false, marks := #[] } } :: { wait := .closeLoop, pc := 81, pos := pos, outermost := true, loop := 1 } :: fr) 22 pos s) rfl (fun s => by kernel_rfl) fun s => ?_
  exact k _ _ { pc := 81, count := -1, began := none, outer := none } _ (.inr (.inl rfl)) (.inr (.inr (.inr rfl)))

theorem bldBY {p r : List Nat} (hL : t.toList.drop pos = 43 :: (p ++ r)) (hpc : ∀ d ∈ p, isChr d = true) (lp : 1 ≤ p.length) (hr : r = [] ∨ ∃ x y, r = x :: y ∧ isChr x = false) (hsz : t.size ≤ 4294967295)
    (k : ∀ f₁ f₂ f₃ f₄ l s, Good f₁ → Good f₂ → Good f₃ → Good f₄ → To (S t 109 (pos + 1 + p.length) (A10 (some x0) (some x1) (some x2) (some x3) (some x4) (some x5) (some x6) (some x7) (some (pos + 1)) (some (pos + 1 + p.length))) 9 5 #[l0, l] none (f₁ :: f₂ :: f₃ :: f₄ :: fr) 41 (pos + 1 + p.length) s) n P) : To (S t 81 pos (A10 (some x0) (some x1) (some x2) (some x3) (some x4) (some x5) (some x6) (some x7) none none) 7 4 #[l0] none fr 20 h s) (n + 7) P := by
  have hlt := ltd hL
  have hz := szd hL (Nat.le_of_lt hlt)
  rw [List.length_cons, List.length_append] at hz
  have d1 : t.toList.drop (pos + 1) = p ++ r := by rw [← List.drop_drop, hL]; rfl
  refine to_eq (m' := fun s => S t 108 pos (A10 (some x0) (some x1) (some x2) (some x3) (some x4) (some x5) (some x6) (some x7) none none) 7 4 #[l0, { pc := 81, count := -1, began := none, outer := none }] (some 1) ({ wait := .closeLoop, pc := 81, pos := pos, outermost := true, loop := 1 } :: fr) 21 pos s) rfl (fun s => by kernel_rfl) fun s => ?_
  refine to_eq (m' := fun s => S t 85 pos (A10 (some x0) (some x1) (some x2) (some x3) (some x4) (some x5) (some x6) (some x7) none none) 7 4 #[l0, { pc := 81, count := 0, began := some pos, outer := none }] (some 1) ({ wait := .maxMore, pc := 109, pos := pos, outermost := true, loop := 1, count := 0, kept := { lastmark := 7, lastindex := 4, whole := true, marks := #[(some x0), (some x1), (some x2), (some x3), (some x4), (some x5), (some x6), (some x7)] }, began := none } :: { wait := .closeLoop, pc := 81, pos := pos, outermost := true, loop := 1 } :: fr) 30 pos s) rfl (fun s => by kernel_rfl) fun s => ?_
  refine to_eq (m' := fun s => S t 87 (pos + 1) (A10 (some x0) (some x1) (some x2) (some x3) (some x4) (some x5) (some x6) (some x7) none none) 7 4 #[l0, { pc := 81, count := 0, began := some pos, outer := none }] (some 1) ({ wait := .maxMore, pc := 109, pos := pos, outermost := true, loop := 1, count := 0, kept := { lastmark := 7, lastindex := 4, whole := true, marks := #[(some x0), (some x1), (some x2), (some x3), (some x4), (some x5), (some x6), (some x7)] }, began := none } :: { wait := .closeLoop, pc := 81, pos := pos, outermost := true, loop := 1 } :: fr) 30 pos s) rfl (fun s => st_lit (by decide) rfl rfl hlt (getd hL)) fun s => ?_
  refine to_eq (m' := fun s => S t 89 (pos + 1) (A10 (some x0) (some x1) (some x2) (some x3) (some x4) (some x5) (some x6) (some x7) (some (pos + 1)) none) 8 4 #[l0, { pc := 81, count := 0, began := some pos, outer := none }] (some 1) ({ wait := .maxMore, pc := 109, pos := pos, outermost := true, loop := 1, count := 0, kept := { lastmark := 7, lastindex := 4, whole := true, marks := #[(some x0), (some x1), (some x2), (some x3), (some x4), (some x5), (some x6), (some x7)] }, began := none } :: { wait := .closeLoop, pc := 81, pos := pos, outermost := true, loop := 1 } :: fr) 30 pos s) rfl (fun s => by kernel_rfl) fun s => ?_
  obtain ⟨f₃, s₃, w₃, e₃⟩ := st_rep (t := t) (pc := 89) (pos := pos + 1) (n := p.length) (k := 16) (mk := (A10 (some x0) (some x1) (some x2) (some x3) (some x4) (some x5) (some x6) (some x7) (some (pos + 1)) none)) (lm := 8) (li := 4) (lo := #[l0, { pc := 81, count := 0, began := some pos, outer := none }]) (inn := some 1) (fr := { wait := .maxMore, pc := 109, pos := pos, outermost := true, loop := 1, count := 0, kept := { lastmark := 7, lastindex := 4, whole := true, marks := #[(some x0), (some x1), (some x2), (some x3), (some x4), (some x5), (some x6), (some x7)] }, began := none } :: { wait := .closeLoop, pc := 81, pos := pos, outermost := true, loop := 1 } :: fr) (w := 30) (h := pos) (s := s) (by decide) rfl rfl rfl rfl lp (by omega) hsz
    (fun s => by
      have := run_ok (acc_chr 93 (.inr rfl)) p r (t.size - (pos + 1)) (pos + 1) 0 s d1 hpc (by omega) (by
        rcases hr with rfl | h
        · simp only [List.length_nil] at hz; exact .inl (by omega)
        · exact .inr h)
      simpa using this) (by show (40 : Nat) ≤ _; decide)
  refine to_eq (m' := fun s => S t 106 (pos + 1 + p.length) (A10 (some x0) (some x1) (some x2) (some x3) (some x4) (some x5) (some x6) (some x7) (some (pos + 1)) none) 8 4 #[l0, { pc := 81, count := 0, began := some pos, outer := none }] (some 1) (f₃ :: { wait := .maxMore, pc := 109, pos := pos, outermost := true, loop := 1, count := 0, kept := { lastmark := 7, lastindex := 4, whole := true, marks := #[(some x0), (some x1), (some x2), (some x3), (some x4), (some x5), (some x6), (some x7)] }, began := none } :: { wait := .closeLoop, pc := 81, pos := pos, outermost := true, loop := 1 } :: fr) 40 (pos + 1 + p.length) s) rfl (fun s => by rw [e₃]; kernel_rfl) fun s => ?_
  refine to_eq (m' := fun s => S t 108 (pos + 1 + p.length) (A10 (some x0) (some x1) (some x2) (some x3) (some x4) (some x5) (some x6) (some x7) (some (pos + 1)) (some (pos + 1 + p.length))) 9 5 #[l0, { pc := 81, count := 0, began := some pos, outer := none }] (some 1) (f₃ :: { wait := .maxMore, pc := 109, pos := pos, outermost := true, loop := 1, count := 0, kept := { lastmark := 7, lastindex := 4, whole := true, marks := #[(some x0), (some x1), (some x2), (some x3), (some x4), (some x5), (some x6), (some x7)] }, began := none } :: { wait := .closeLoop, pc := 81, pos := pos, outermost := true, loop := 1 } :: fr) 40 (pos + 1 + p.length) s) rfl (fun s => by kernel_rfl) fun s => ?_
  refine to_eq (m' := fun s => S t 109 (pos + 1 + p.length) (A10 (some x0) (some x1) (some x2) (some x3) (some x4) (some x5) (some x6) (some x7) (some (pos + 1)) (some (pos + 1 + p.length))) 9 5 #[l0, { pc := 81, count := 0, began := some pos, outer := none }] none ({ wait := .maxTail, pc := 109, pos := pos + 1 + p.length, outermost := true, loop := 1, count := 1, kept := { lastmark := 9, lastindex := 5, whole := false, marks := #[] } } :: f₃ :: { wait := .maxMore, pc := 109, pos := pos, outermost := true, loop := 1, count := 0, kept := { lastmark := 7, lastindex := 4, whole := true, marks := #[(some x0), (some x1), (some x2), (some x3), (some x4), (some x5), (some x6), (some x7)] }, began := none } :: { wait := .closeLoop, pc := 81, pos := pos, outermost := true, loop := 1 } :: fr) 41 (pos + 1 + p.length) s) rfl (fun s => by kernel_rfl) fun s => ?_
  exact k _ f₃ _ _ _ _ (.inr (.inl rfl)) (.inl w₃) (.inr (.inr (.inl rfl))) (.inr (.inr (.inr rfl)))
end
end Mine.Rx
end
section
open PySem PySem.W PyProof.Rows
set_option maxRecDepth 100000
namespace Mine.Rx
open PySem.Sre PySem.Sre.M

/-- what is asked of the end -/
structure Ends (t : Array Nat) (mk : Array (Option Nat)) (lm li : Int) (m : M) : Prop where
  out : m.outcome = some .matched
  marks : m.marks = mk
  lm : m.lastmark = lm
  li : m.lastindex = li
  start : m.start = 0
  handed : m.handed = t.size

theorem pop_ok {t : Array Nat} {mk : Array (Option Nat)} {lm li : Int} : ∀ (fr : List Sre.Frame) (m : M), (∀ f ∈ fr, Good f) → m.frames = fr → m.answer = some true → m.outcome = none → m.marks = mk → m.lastmark = lm → m.lastindex = li → m.start = 0 → m.handed = t.size → To m (fr.length + 1) (Ends t mk lm li)
  | [], m, _, hf, ha, ho, h1, h2, h3, h4, h5 => by
    refine to_step ho fun s => ⟨0, Nat.le_refl _, ?_⟩
    have e : m.step = { m with outcome := some .matched } := by
      unfold M.step
      rw [ho, ha, hf]
      rfl
    show ((reseen m.step s).outcome.isSome = true) ∧ _
    rw [e]
    exact ⟨rfl, rfl, h1, h2, h3, h4, h5⟩
  | f :: fr, m, hg, hf, ha, ho, h1, h2, h3, h4, h5 => by
    refine to_step ho fun s => ?_
    have e : m.step = M.resume { m with answer := none, frames := fr, weight := m.weight - (1 + f.kept.marks.size), pc := f.pc, pos := f.pos, outermost := f.outermost } f true := by
      unfold M.step
      rw [ho, ha, hf]
      rfl
    rw [e]
    have hrest : ∀ g ∈ fr, Good g := fun g hg' => hg g (.tail _ hg')
    rcases hg f (.head _) with w | w | w | w
    · have : M.resume { m with answer := none, frames := fr, weight := m.weight - (1 + f.kept.marks.size), pc := f.pc, pos := f.pos, outermost := f.outermost } f true = M.say { m with answer := none, frames := fr, weight := m.weight - (1 + f.kept.marks.size), pc := f.pc, pos := f.pos, outermost := f.outermost } true := by
        unfold M.resume; rw [w]; rfl
      rw [this]
      exact pop_ok fr _ hrest rfl rfl ho h1 h2 h3 h4 h5
    · have : M.resume { m with answer := none, frames := fr, weight := m.weight - (1 + f.kept.marks.size), pc := f.pc, pos := f.pos, outermost := f.outermost } f true = M.say { ({ m with answer := none, frames := fr, weight := m.weight - (1 + f.kept.marks.size), pc := f.pc, pos := f.pos, outermost := f.outermost } : M) with inner := some f.loop } true := by
        unfold M.resume; rw [w]
      rw [this]
      exact pop_ok fr _ hrest rfl rfl ho h1 h2 h3 h4 h5
    · have : M.resume { m with answer := none, frames := fr, weight := m.weight - (1 + f.kept.marks.size), pc := f.pc, pos := f.pos, outermost := f.outermost } f true = M.say (M.setLoop { m with answer := none, frames := fr, weight := m.weight - (1 + f.kept.marks.size), pc := f.pc, pos := f.pos, outermost := f.outermost } f.loop fun l => { l with began := f.began }) true := by
        unfold M.resume; rw [w]; rfl
      rw [this]
      exact pop_ok fr _ hrest rfl rfl ho h1 h2 h3 h4 h5
    · have : M.resume { m with answer := none, frames := fr, weight := m.weight - (1 + f.kept.marks.size), pc := f.pc, pos := f.pos, outermost := f.outermost } f true = M.say { ({ m with answer := none, frames := fr, weight := m.weight - (1 + f.kept.marks.size), pc := f.pc, pos := f.pos, outermost := f.outermost } : M) with inner := (M.loopAt { m with answer := none, frames := fr, weight := m.weight - (1 + f.kept.marks.size), pc := f.pc, pos := f.pos, outermost := f.outermost } f.loop).outer, loops := m.loops.pop } true := by
        unfold M.resume; rw [w]
      rw [this]
      exact pop_ok fr _ hrest rfl rfl ho h1 h2 h3 h4 h5

section
variable {t : Array Nat} {s : Sre.Seen} {h pos w : Nat} {fr : List Sre.Frame} {mk : Array (Option Nat)} {lm li : Int} {lo : Array Loop} {inn : Option Nat}
theorem ph4 (hp : pos = t.size) (hg : ∀ f ∈ fr, Good f) : To (S t 109 pos mk lm li lo inn fr w h s) (fr.length + 1 + 1 + 1) (Ends t mk lm li) := by
  refine to_eq (m' := fun s => S t 111 pos mk lm li lo inn fr w h s) rfl (fun s' => ?_) fun s => ?_
  · have hat : M.isAt { S t 109 pos mk lm li lo inn fr w h s with seen := s.add 6 } 5 = .ok true := by
      unfold M.isAt
      show Except.ok (pos == t.size || _) = _
      rw [hp]
      simp
    have e1 : (S t 109 pos mk lm li lo inn fr w h s).outcome.isSome = false := rfl
    have e2 : (S t 109 pos mk lm li lo inn fr w h s).answer = none := rfl
    have e3 : (S t 109 pos mk lm li lo inn fr w h s).pc < (S t 109 pos mk lm li lo inn fr w h s).code.size := by show 109 < code.size; decide
    have w0 : (S t 109 pos mk lm li lo inn fr w h s).word 0 = 6 := rfl
    have hop : ops[(6 : Nat)]? = some Op.AT := rfl
    have : (S t 109 pos mk lm li lo inn fr w h s).step = S t 111 pos mk lm li lo inn fr w h ((s.add 6).add (43 + 5)) := by
      unfold M.step
      rw [e1]
      simp only [e2, Bool.false_eq_true, if_false]
      rw [if_pos e3]
      unfold M.exec
      rw [w0, hop]
      dsimp only
      split
      · rename_i why e
        exact nomatch (hat.symm.trans e : Except.ok _ = Except.error _)
      · rename_i yes e
        have e' : Except.ok true = Except.ok yes := hat.symm.trans e
        cases e'
        rfl
    rw [this]
    rfl
  · refine to_step rfl fun s' => ?_
    refine pop_ok fr _ hg ?_ ?_ ?_ ?_ ?_ ?_ ?_ ?_
    · kernel_rfl
    · kernel_rfl
    · kernel_rfl
    · kernel_rfl
    · kernel_rfl
    · kernel_rfl
    · kernel_rfl
    · show pos = _; exact hp
end
end Mine.Rx
end
section
open PySem PySem.W PyProof.Rows
set_option maxRecDepth 100000
namespace Mine.Rx
open PySem.Sre PySem.Sre.M

noncomputable def tail (c : Nat) : Option (List Nat) → List Nat
  | none => []
  | some p => c :: p
noncomputable def render (a b c : List Nat) (p q : Option (List Nat)) : List Nat := a ++ 46 :: (b ++ 46 :: (c ++ (tail 45 p ++ tail 43 q)))
structure Valid (a b c : List Nat) (p q : Option (List Nat)) : Prop where
  va : ∀ d ∈ a, isDec d = true
  vb : ∀ d ∈ b, isDec d = true
  vc : ∀ d ∈ c, isDec d = true
  la : 1 ≤ a.length
  lb : 1 ≤ b.length
  lc : 1 ≤ c.length
  vp : ∀ l, p = some l → (∀ d ∈ l, isChr d = true) ∧ 1 ≤ l.length
  vq : ∀ l, q = some l → (∀ d ∈ l, isChr d = true) ∧ 1 ≤ l.length
/-- where a part lies -/
noncomputable def span (pos : Nat) : Option (List Nat) → List Int
  | none => [-1, -1]
  | some p => [(pos + 1 : Nat), (pos + 1 + p.length : Nat)]
noncomputable def skip (pos : Nat) : Option (List Nat) → Nat
  | none => pos
  | some p => pos + 1 + p.length
noncomputable def spans (a b c : List Nat) (p q : Option (List Nat)) : List Int :=
  ([0, ((render a b c p q).length : Nat), 0, (a.length : Nat), (a.length + 1 : Nat), (a.length + 1 + b.length : Nat), (a.length + 1 + b.length + 1 : Nat), (a.length + 1 + b.length + 1 + c.length : Nat)] : List Int) ++
    span (a.length + 1 + b.length + 1 + c.length) p ++ span (skip (a.length + 1 + b.length + 1 + c.length) p) q

/-- as the engine's marks tell them -/
noncomputable def spansOf (mk : Array (Option Nat)) (lm : Int) : List Int := (List.range 5).flatMap fun g =>
    match if ((2 * g + 1 : Nat) : Int) ≤ lm then (mk.getD (2 * g) none, mk.getD (2 * g + 1) none) else (none, none) with
    | (some b, some e) => [(b : Int), (e : Int)]
    | _ => [-1, -1]
noncomputable def wrong (mk : Array (Option Nat)) (lm : Int) : Bool := (List.range 5).any fun g => match mk.getD (2 * g) none, mk.getD (2 * g + 1) none with | some b, some e => decide (((2 * g + 1 : Nat) : Int) ≤ lm) && decide (e < b) | _, _ => false

theorem dec46 : isDec 46 = false := by decide +kernel
theorem dec45 : isDec 45 = false := by decide +kernel
theorem dec43 : isDec 43 = false := by decide +kernel
theorem chr43 : isChr 43 = false := by decide +kernel

theorem good3 {f₁ f₂ f₃ : Sre.Frame} (w₁ : f₁.wait = .giveBack) (w₂ : f₂.wait = .giveBack) (w₃ : f₃.wait = .giveBack) : ∀ f ∈ [f₃, f₂, f₁], Good f := by
  intro f hf
  simp only [List.mem_cons, List.not_mem_nil, or_false] at hf
  rcases hf with rfl | rfl | rfl
  · exact .inl w₃
  · exact .inl w₂
  · exact .inl w₁
theorem goodc {f : Sre.Frame} {fr : List Sre.Frame} (h : Good f) (k : ∀ g ∈ fr, Good g) : ∀ g ∈ f :: fr, Good g := fun g hg => (List.mem_cons.mp hg).elim (fun e => e ▸ h) (k g)

section
variable {t : Array Nat} {a b c : List Nat} {p q : Option (List Nat)}
theorem match_ok (V : Valid a b c p q) (ht : t.toList = render a b c p q) (hsz : t.size ≤ 4294967295) :
    ∃ mk lm li, To (forMatch code t 5 0 t.size false false) 60 (Ends t mk lm li) ∧ [0, (t.size : Int)] ++ spansOf mk lm = spans a b c p q ∧ wrong mk lm = false := by
  have hz : t.size = (render a b c p q).length := by rw [← ht, Array.length_toList]
  have e : forMatch code t 5 0 t.size false false = (if ((5 : Nat) != 0 && decide (0 ≤ t.size) && decide (t.size - 0 < 5)) = true then (S t 5 0 (A10 none none none none none none none none none none) (-1) (-1) #[] none [] 0 0 (({} : Sre.Seen).add 14)).say false else S t 5 0 (A10 none none none none none none none none none none) (-1) (-1) #[] none [] 0 0 (({} : Sre.Seen).add 14)) := by kernel_rfl
  have la := V.la
  have lb := V.lb
  have lc := V.lc
  have hz' : t.size = a.length + (b.length + (c.length + ((tail 45 p).length + (tail 43 q).length) + 1) + 1) := by
    rw [hz]; unfold render; simp only [List.length_append, List.length_cons]
  rw [if_neg (by simp; omega)] at e
  rw [e]
  have hL : t.toList = a ++ 46 :: (b ++ 46 :: (c ++ (tail 45 p ++ tail 43 q))) := ht
  let p5 := a.length + 1 + b.length + 1 + c.length
  have d5 : t.toList.drop p5 = tail 45 p ++ tail 43 q := by
    rw [hL]
    have : a ++ 46 :: (b ++ 46 :: (c ++ (tail 45 p ++ tail 43 q))) = (a ++ 46 :: (b ++ 46 :: c)) ++ (tail 45 p ++ tail 43 q) := by simp
    rw [this]
    have hl : p5 = (a ++ 46 :: (b ++ 46 :: c)).length := by simp only [List.length_append, List.length_cons]; omega
    rw [hl, List.drop_left]
  have hp5 : p5 ≤ t.size := by omega
  have hr : tail 45 p ++ tail 43 q = [] ∨ ∃ x y, tail 45 p ++ tail 43 q = x :: y ∧ isDec x = false := by
    cases p with
    | some p => exact .inr ⟨45, _, rfl, dec45⟩
    | none => cases q with
      | none => exact .inl rfl
      | some q => exact .inr ⟨43, _, rfl, dec43⟩
  have fin : ∀ {mk lm li P}, To (S t 5 0 (A10 none none none none none none none none none none) (-1) (-1) #[] none [] 0 0 (({} : Sre.Seen).add 14)) 60 (Ends t mk lm li) → [0, (t.size : Int)] ++ spansOf mk lm = spans a b c p q → wrong mk lm = false → P = True →
      ∃ mk lm li, To (S t 5 0 (A10 none none none none none none none none none none) (-1) (-1) #[] none [] 0 0 (({} : Sre.Seen).add 14)) 60 (Ends t mk lm li) ∧ [0, (t.size : Int)] ++ spansOf mk lm = spans a b c p q ∧ wrong mk lm = false := fun h1 h2 h3 _ => ⟨_, _, _, h1, h2, h3⟩
  have mono : ∀ {m : M} {n n' : Nat} {P : M → Prop}, n ≤ n' → To m n P → To m n' P := fun h ⟨k, h1, h2⟩ => ⟨k, Nat.le_trans h1 h, h2⟩
  cases p with
  | none =>
    cases q with
    | none =>
      refine fin (P := True) (mono (n := 6 + 1 + 1 + 1 + 1 + 4 + 4 + 12) (by decide) (ph1 hL V.va V.vb V.vc la lb lc hr dec46 hsz fun f₁ f₂ f₃ h s w₁ w₂ w₃ => preN (r := []) d5 (.inl rfl) hp5 fun g₁ g₂ l s k₁ k₂ => bldAN (r := []) d5 (.inl rfl) hp5 fun g₃ g₄ l s k₃ k₄ =>
        ph4 (by simp only [tail, List.length_nil] at hz'; omega) (goodc k₃ (goodc k₄ (goodc k₁ (goodc k₂ (good3 w₁ w₂ w₃))))))) ?_ ?_ rfl
      · rw [hz]; rfl
      · simp [wrong, A10, List.range, List.range.loop]
    | some q =>
      obtain ⟨hq, lq⟩ := V.vq q rfl
      have d5' : t.toList.drop p5 = 43 :: (q ++ []) := by rw [d5]; simp [tail]
      refine fin (P := True) (mono (n := 8 + 1 + 1 + 1 + 1 + 7 + 4 + 12) (by decide) (ph1 hL V.va V.vb V.vc la lb lc hr dec46 hsz fun f₁ f₂ f₃ h s w₁ w₂ w₃ => preN d5' (.inr ⟨43, _, rfl, by decide⟩) hp5 fun g₁ g₂ l s k₁ k₂ => bldAY d5' hq lq (.inl rfl) hsz fun g₃ g₄ g₅ g₆ l s k₃ k₄ k₅ k₆ =>
        ph4 (by simp only [tail, List.length_nil, List.length_cons] at hz'; omega) (goodc k₃ (goodc k₄ (goodc k₅ (goodc k₆ (goodc k₁ (goodc k₂ (good3 w₁ w₂ w₃))))))))) ?_ ?_ rfl
      · rw [hz]; rfl
      · simp [wrong, A10, List.range, List.range.loop] <;> omega
  | some p =>
    obtain ⟨hp, lp⟩ := V.vp p rfl
    cases q with
    | none =>
      have d5' : t.toList.drop p5 = 45 :: (p ++ []) := by rw [d5]; simp [tail]
      have d6 : t.toList.drop (p5 + 1 + p.length) = [] := by rw [← List.drop_drop, ← List.drop_drop, d5']; simp
      refine fin (P := True) (mono (n := 8 + 1 + 1 + 1 + 1 + 4 + 7 + 12) (by decide) (ph1 hL V.va V.vb V.vc la lb lc hr dec46 hsz fun f₁ f₂ f₃ h s w₁ w₂ w₃ => preY d5' hp lp (.inl rfl) hsz fun g₁ g₂ g₃ g₄ l s k₁ k₂ k₃ k₄ => bldBN (r := []) d6 (.inl rfl) (by simp only [tail, List.length_nil, List.length_cons] at hz'; omega) fun g₅ g₆ l s k₅ k₆ =>
        ph4 (by simp only [tail, List.length_nil, List.length_cons] at hz'; omega) (goodc k₅ (goodc k₆ (goodc k₁ (goodc k₂ (goodc k₃ (goodc k₄ (good3 w₁ w₂ w₃))))))))) ?_ ?_ rfl
      · rw [hz]; rfl
      · simp [wrong, A10, List.range, List.range.loop] <;> omega
    | some q =>
      obtain ⟨hq, lq⟩ := V.vq q rfl
      have d5' : t.toList.drop p5 = 45 :: (p ++ 43 :: q) := by rw [d5]; simp [tail]
      have d6 : t.toList.drop (p5 + 1 + p.length) = 43 :: (q ++ []) := by
        rw [← List.drop_drop, ← List.drop_drop, d5', List.append_nil]
        show (p ++ 43 :: q).drop p.length = _
        rw [List.drop_left]
      refine fin (P := True) (mono (n := 10 + 1 + 1 + 1 + 1 + 7 + 7 + 12) (by decide) (ph1 hL V.va V.vb V.vc la lb lc hr dec46 hsz fun f₁ f₂ f₃ h s w₁ w₂ w₃ => preY d5' hp lp (.inr ⟨43, _, rfl, chr43⟩) hsz fun g₁ g₂ g₃ g₄ l s k₁ k₂ k₃ k₄ => bldBY d6 hq lq (.inl rfl) hsz fun g₅ g₆ g₇ g₈ l s k₅ k₆ k₇ k₈ =>
        ph4 (by simp only [tail, List.length_nil, List.length_cons] at hz'; omega) (goodc k₅ (goodc k₆ (goodc k₇ (goodc k₈ (goodc k₁ (goodc k₂ (goodc k₃ (goodc k₄ (good3 w₁ w₂ w₃))))))))))) ?_ ?_ rfl
      · rw [hz]; rfl
      · simp [wrong, A10, List.range, List.range.loop] <;> omega
end
end Mine.Rx
end
section
open PySem PySem.W PyProof.Rows
set_option maxRecDepth 100000
namespace Mine.Rx
open PySem.Sre PySem.Sre.M
open PySem.Builtin.Re

theorem runFor_done : ∀ (k : Nat) {m : M}, m.outcome.isSome = true → m.runFor k = m
  | 0, _, _ => rfl
  | k + 1, m, h => by show (if m.outcome.isSome then m else M.runFor k m.step) = m; rw [if_pos h]
theorem runFor_add : ∀ (a b : Nat) (m : M), m.runFor (a + b) = (m.runFor a).runFor b
  | 0, b, m => by rw [Nat.zero_add]; rfl
  | a + 1, b, m => by
    rw [Nat.add_right_comm]
    show (if m.outcome.isSome then m else M.runFor (a + b) m.step) = M.runFor b (if m.outcome.isSome then m else M.runFor a m.step)
    by_cases h : m.outcome.isSome = true
    · rw [if_pos h, if_pos h, runFor_done b h]
    · rw [if_neg h, if_neg h, runFor_add a b]
section
variable {M₀ : Model} {A : Around} {E : Value → Shared → Prop} {s : Shared}
theorem drive_ok {Q : M → Shared → Prop} : ∀ (turns k : Nat) (m : M), 1 ≤ turns → k ≤ 4 * turns → (m.runFor k).outcome.isSome = true → Q (m.runFor k) s → wpAny M₀ A (reDrive turns m) Q E s
  | 0, _, _, h, _, _, _ => absurd h (by decide)
  | turns + 1, k, m, _, hk, ho, q => by
    unfold reDrive
    show wpAny _ _ (if (m.runFor 4).outcome.isSome = true then pure (m.runFor 4) else (rule "sre.turn" >>= fun _ => reDrive turns (m.runFor 4))) Q E s
    by_cases h4 : (m.runFor 4).outcome.isSome = true
    · rw [if_pos h4]
      refine wpAny_pure ?_
      have : m.runFor 4 = m.runFor k := by
        rcases Nat.le_total k 4 with h | h
        · obtain ⟨j, hj⟩ : ∃ j, 4 = k + j := ⟨4 - k, by omega⟩
          rw [hj, runFor_add, runFor_done _ ho]
        · obtain ⟨j, rfl⟩ := Nat.exists_eq_add_of_le h
          rw [runFor_add, runFor_done _ h4]
      rw [this]
      exact q
    · rw [if_neg h4]
      refine wpAny_bind (wpAny_rule ?_)
      have hk4 : 4 < k := by
        rcases Nat.lt_or_ge 4 k with h | h
        · exact h
        · obtain ⟨j, hj⟩ := Nat.exists_eq_add_of_le h
          exact absurd (by rw [hj, runFor_add, runFor_done _ ho]; exact ho) h4
      obtain ⟨j, rfl⟩ := Nat.exists_eq_add_of_le (Nat.le_of_lt hk4)
      rw [runFor_add] at ho q
      refine drive_ok turns j (m.runFor 4) ?_ (by omega) ho q
      rcases Nat.eq_zero_or_pos turns with h | h
      · subst h; omega
      · exact h
theorem rules_ok {f : Nat → Bool} {g : Nat → String} {Q : PUnit → Shared → Prop} : ∀ (l : List Nat), Q ⟨⟩ s → wpAny M₀ A (forIn l PUnit.unit fun i _ => if f i = true then (rule (g i) >>= fun _ => pure (ForInStep.yield PUnit.unit)) else pure (ForInStep.yield PUnit.unit)) Q E s
  | [], q => wpAny_pure q
  | i :: l, q => by
    rw [List.forIn_cons]
    refine wpAny_bind ?_
    split
    · exact wpAny_bind (wpAny_rule (wpAny_pure (rules_ok l q)))
    · exact wpAny_pure (rules_ok l q)
theorem toEnd_ok {Q : Option M → Shared → Prop} {m : M} {P : M → Prop} (h : To m 60 P) (hP : ∀ m', P m' → m'.outcome = some .matched) (q : ∀ m', P m' → Q (some m') s) : wpAny M₀ A (reRunToEnd m) Q E s := by
  obtain ⟨k, hk, ho, hp⟩ := h
  unfold reRunToEnd
  refine wpAny_bind (drive_ok (2 ^ 64) k m (by decide) (Nat.le_trans hk (by decide)) ho ?_)
  refine wpAny_bind ?_
  refine rules_ok _ ?_
  rw [hP _ hp]
  exact wpAny_pure (q _ hp)
end
end Mine.Rx
end
section
open PySem PySem.W PyProof.Rows
set_option maxRecDepth 100000
namespace Mine.Rx

noncomputable def cutTail (c : Nat) : List Nat → Option (List Nat) × List Nat
  | [] => (none, [])
  | d :: r => if d = c then (some (r.takeWhile isChr), r.dropWhile isChr) else (none, d :: r)
noncomputable def lenOk : Option (List Nat) → Bool
  | none => true
  | some p => !p.isEmpty
/-- a version's text, cut -/
noncomputable def verCut (x : List Nat) : Option (List Nat × List Nat × List Nat × Option (List Nat) × Option (List Nat)) :=
  match x.dropWhile isDec with
  | 46 :: r1 => match r1.dropWhile isDec with
    | 46 :: r2 => if !(x.takeWhile isDec).isEmpty && !(r1.takeWhile isDec).isEmpty && !(r2.takeWhile isDec).isEmpty && lenOk (cutTail 45 (r2.dropWhile isDec)).1 && lenOk (cutTail 43 (cutTail 45 (r2.dropWhile isDec)).2).1 && (cutTail 43 (cutTail 45 (r2.dropWhile isDec)).2).2.isEmpty then
        some (x.takeWhile isDec, r1.takeWhile isDec, r2.takeWhile isDec, (cutTail 45 (r2.dropWhile isDec)).1, (cutTail 43 (cutTail 45 (r2.dropWhile isDec)).2).1) else none
    | _ => none
  | _ => none

theorem takeWhile_all {f : Nat → Bool} : ∀ {x : List Nat}, ∀ d ∈ x.takeWhile f, f d = true
  | [], d, h => by cases h
  | y :: x, d, h => by
    rw [List.takeWhile_cons] at h
    split at h
    · rename_i e
      rcases List.mem_cons.mp h with rfl | h
      · exact e
      · exact takeWhile_all d h
    · cases h
theorem cutTail_eq (c : Nat) (x : List Nat) : x = tail c (cutTail c x).1 ++ (cutTail c x).2 := by
  cases x with
  | nil => rfl
  | cons d r =>
    by_cases e : d = c
    · subst e
      rw [show cutTail d (d :: r) = (some (r.takeWhile isChr), r.dropWhile isChr) from if_pos rfl]
      show d :: r = d :: (r.takeWhile isChr ++ r.dropWhile isChr)
      rw [List.takeWhile_append_dropWhile]
    · rw [show cutTail c (d :: r) = (none, d :: r) from if_neg e]
      rfl
theorem cutTail_ok {c : Nat} {x l : List Nat} (h : (cutTail c x).1 = some l) (hl : lenOk (cutTail c x).1 = true) : (∀ d ∈ l, isChr d = true) ∧ 1 ≤ l.length := by
  rw [h] at hl
  have hl' : 1 ≤ l.length := by
    cases l with
    | nil => cases hl
    | cons a b => simp
  cases x with
  | nil => cases h
  | cons d r =>
    by_cases e : d = c
    · rw [show cutTail c (d :: r) = (some (r.takeWhile isChr), r.dropWhile isChr) from if_pos e] at h
      cases h
      exact ⟨takeWhile_all, hl'⟩
    · rw [show cutTail c (d :: r) = (none, d :: r) from if_neg e] at h
      cases h
theorem verCut_ok {x a b c : List Nat} {p q : Option (List Nat)} (h : verCut x = some (a, b, c, p, q)) : Valid a b c p q ∧ x = render a b c p q := by
  unfold verCut at h
  split at h
  · rename_i r1 h1
    split at h
    · rename_i r2 h2
      split at h
      · rename_i hc
        simp only [Bool.and_eq_true, Bool.not_eq_true', List.isEmpty_eq_false_iff, ne_eq, List.isEmpty_iff] at hc
        obtain ⟨⟨⟨⟨⟨la, lb⟩, lc⟩, lp⟩, lq⟩, hend⟩ := hc
        have pos : ∀ {l : List Nat}, l ≠ [] → 1 ≤ l.length := fun {l} h => by cases l with
          | nil => exact absurd rfl h
          | cons => simp
        cases h
        refine ⟨⟨takeWhile_all, takeWhile_all, takeWhile_all, pos la, pos lb, pos lc, fun l e => cutTail_ok e lp, fun l e => cutTail_ok e lq⟩, ?_⟩
        unfold render
        have e1 := cutTail_eq 45 (r2.dropWhile isDec)
        have e2 := cutTail_eq 43 (cutTail 45 (r2.dropWhile isDec)).2
        rw [hend, List.append_nil] at e2
        rw [← e2, ← e1, List.takeWhile_append_dropWhile, ← h2, List.takeWhile_append_dropWhile, ← h1, List.takeWhile_append_dropWhile]
      · cases h
    · cases h
  · cases h
end Mine.Rx
namespace Mine
open PySem.Builtin.Re

noncomputable def isVerPat (K : Frag) (pat : Addr) : Bool := match K.lookup pat with
  | some o => o.cls == .type "re.Pattern" && o.dict.isNone && (match o.data with
    | .fields fs => (match fs.getD 5 .none with
      | .ref ct => (match K.lookup ct with
        | some oc => (match oc.data with
          | .seq items _ => (items.map reRawOf).map (·.toNat) == Rx.code
          | _ => false)
        | none => false)
      | _ => false) && reRawNat (fs.getD 6 .none) == 0 && reRawNat (fs.getD 2 .none) == 5
    | _ => false)
  | none => false
noncomputable def matchX (K : Frag) (pat : Addr) (x : Str) : Option D := if isVerPat K pat = true ∧ x.length ≤ 1000000 then (Rx.verCut x.cps.toList).map fun v => .mtch pat x (Rx.spans v.1 v.2.1 v.2.2.1 v.2.2.2.1 v.2.2.2.2) else none
noncomputable def grp (x : Str) (b e : Int) : D := if b < 0 || e < 0 then .none else .str ⟨x.cps.extract b.toNat e.toNat⟩
noncomputable def groupsX (x : Str) (sp : List Int) : D := .tup ((List.range (sp.length / 2 - 1)).map fun g => grp x (sp.getD (2 * (g + 1)) (-1)) (sp.getD (2 * (g + 1) + 1) (-1)))

section
variable {prog : Program} {w : World} {K : Frag} {B : Nat}
theorem pat_at {pat : Addr} (h : isVerPat K pat = true) {s : Shared} (I : Inv K B s) : ∃ o fs ct oc items n, s.heap.get? pat = some o ∧ o.cls = .type "re.Pattern" ∧ o.dict = none ∧ o.data = .fields fs ∧ fs.getD 5 .none = .ref ct ∧ s.heap.get? ct = some oc ∧ oc.data = .seq items n ∧ (items.map reRawOf).map (·.toNat) = Rx.code ∧ reRawNat (fs.getD 6 .none) = 0 ∧ reRawNat (fs.getD 2 .none) = 5 := by
  unfold isVerPat at h
  split at h
  · rename_i o ho
    simp only [Bool.and_eq_true, beq_iff_eq, Option.isNone_iff_eq_none] at h
    obtain ⟨⟨hc, hd⟩, h⟩ := h
    split at h
    · rename_i fs hfs
      simp only [Bool.and_eq_true, beq_iff_eq] at h
      obtain ⟨⟨h, h6⟩, h2⟩ := h
      split at h
      · rename_i ct h5
        split at h
        · rename_i oc hoc
          split at h
          · rename_i items n hit
            exact ⟨o, fs, ct, oc, items, n, I.X _ _ ho, hc, hd, hfs, h5, I.X _ _ hoc, hit, eq_of_beq h, h6, h2⟩
          · cases h
        · cases h
      · cases h
    · cases h
  · cases h

theorem named_match (p : Value) : reNamed "re.Pattern.match" "match" ["string", "pos", "endpos"] 1 [p] [] = pure [some p, none, none] := by kernel_rfl
theorem named_groups : reNamed "re.Match.groups" "groups" ["default"] 0 [] [] = pure [none] := by kernel_rfl
end
end Mine
end
section
open PySem PySem.W PyProof.Rows
set_option maxRecDepth 100000
namespace Mine
open PySem.Builtin.Re

section
variable {prog : Program} {w : World} {K : Frag} {B : Nat}
theorem rawOf_rawInt (i : Int) : reRawOf (rawInt i) = i := rfl
theorem map_raw (l : List Int) : ((l.map rawInt).toArray.map reRawOf) = l.toArray := by
  rw [List.map_toArray, List.map_map]
  congr 1
  induction l with
  | nil => rfl
  | cons a l ih => rw [List.map_cons, ih]; rfl

theorem spans_raw (mk : Array (Option Nat)) (lm : Int) : ((List.range 5).flatMap fun g =>
    match if ((2 * g + 1 : Nat) : Int) ≤ lm then (mk.getD (2 * g) none, mk.getD (2 * g + 1) none) else (none, none) with
    | (some b, some e) => [rawInt b, rawInt e]
    | _ => [rawInt (-1), rawInt (-1)]) = (Rx.spansOf mk lm).map rawInt := by
  unfold Rx.spansOf
  rw [List.map_flatMap]
  congr 1
  funext g
  generalize (if ((2 * g + 1 : Nat) : Int) ≤ lm then (mk.getD (2 * g) none, mk.getD (2 * g + 1) none) else (none, none)) = z
  obtain ⟨b, e⟩ := z
  cases b <;> cases e <;> rfl

theorem flat2 {f : Nat → List Int} (h : ∀ g, (f g).length = 2) : ∀ l : List Nat, (l.flatMap f).length = 2 * l.length
  | [] => rfl
  | a :: l => by rw [List.flatMap_cons, List.length_append, h, flat2 h l, List.length_cons]; omega
theorem spansOf_len (mk : Array (Option Nat)) (lm : Int) : (Rx.spansOf mk lm).length = 10 := by
  unfold Rx.spansOf
  refine flat2 (fun g => ?_) _
  generalize (if ((2 * g + 1 : Nat) : Int) ≤ lm then (mk.getD (2 * g) none, mk.getD (2 * g + 1) none) else (none, none)) = z
  obtain ⟨b, e⟩ := z
  cases b <;> cases e <;> rfl
theorem newMatch_ok {A : Around} {E : Value → Shared → Prop} {s : Shared} {Q : Value → Shared → Prop} {pat : Value} {str : Value} {pos lim : Nat} {m : Sre.M} (hw : Rx.wrong m.marks m.lastmark = false)
    (q : Q (.ref (s.heap.objs.size + 1)) { s with heap := (s.heap.push { cls := .type "tuple", data := .seq (([(m.start : Int), (m.handed : Int)] ++ Rx.spansOf m.marks m.lastmark).map rawInt).toArray }).push { cls := .type "re.Match", data := .fields #[str, pat, rawInt pos, rawInt lim, rawInt m.lastindex, .ref s.heap.objs.size] } }) :
    wpAny (model prog w) A (reNewMatch pat str 5 pos lim m) Q E s := by
  unfold reNewMatch
  dsimp only
  have e1 : ([(m.start : Int), (m.handed : Int)] ++ Rx.spansOf m.marks m.lastmark).map rawInt = rawInt m.start :: rawInt m.handed :: _ := congrArg (fun l => rawInt m.start :: rawInt m.handed :: l) (spans_raw m.marks m.lastmark).symm
  rw [e1] at q
  split
  · rename_i e
    exact absurd (hw.symm.trans e) Bool.false_ne_true
  · simp only [newTuple, newFields]
    refine wpAny_bind (wpAny_newObj_type ?_ (by
      have l2 : (List.flatMap _ _ : List Value).length = 10 := (congrArg List.length (spans_raw m.marks m.lastmark)).trans (by rw [List.length_map]; exact spansOf_len _ _)
      show (List.toArray (rawInt m.start :: rawInt m.handed :: _)).size ≤ sizeLine
      rw [List.size_toArray, List.length_cons, List.length_cons]
      exact Nat.le_trans (Nat.le_of_eq (congrArg (· + 2) l2)) (by decide)))
    refine wpAny_newObj_type ?_ (by size_fits)
    rw [Heap.size_push]
    exact q

theorem reMatch_code {pat : Addr} {x : Str} {t : Tok} {d : D} (h : matchX K pat x = some d) : MeetsIn prog w (Builtin.«re.Pattern.match» ⟨[.ref pat, .str x t], []⟩)
    (fun A R s => Inv K B s ∧ ∀ v s', Stp [] s s' → (∀ O, OLow O s → Rep O s'.heap v d) → R (.ok (.ret v)) s') :=
  MeetsIn.of_wp fun A R s hS => by
    obtain ⟨I, hR⟩ := hS
    unfold matchX at h
    split at h
    · rename_i hc
      obtain ⟨hp, hlen⟩ := hc
      obtain ⟨⟨a, b, c, p, q⟩, hcut, rfl⟩ := Option.map_eq_some_iff.mp h
      obtain ⟨V, hx⟩ := Rx.verCut_ok hcut
      obtain ⟨o, fs, ct, oc, items, n, g1, g2, g3, g4, g5, g6, g7, g8, g9, g10⟩ := pat_at hp I
      have hz : x.cps.size ≤ 4294967295 := Nat.le_trans hlen (by decide)
      obtain ⟨mk, lm, li, hto, hsp, hwr⟩ := Rx.match_ok (t := x.cps) V hx hz
      unfold Builtin.«re.Pattern.match»
      refine wpAny_bind ?_
      unfold reTarget
      dsimp only
      rw [named_match]
      refine wpAny_bind (wpAny_pure ?_)
      dsimp only
      refine wpAny_bind (wpAny_pure (wpAny_bind (wpAny_pure (wpAny_bind (wpAny_fieldsOf g1 g4 (wpAny_bind ?_))))))
      refine wpAny_of_eq (a := (x.cps, 0)) (by rfl) ?_
      dsimp only
      rw [g9, g10, g5]
      rw [if_neg (by decide), if_neg (by decide)]
      refine wpAny_bind (wpAny_of_eq (a := ()) (by rfl) ?_)
      refine wpAny_bind ?_
      unfold reRawItems
      refine wpAny_bind (wpAny_seqItems g6 g7 ?_)
      refine wpAny_pure (wpAny_pure ?_)
      dsimp only
      have e0 : Array.map (fun x => x.toNat) (Array.map reRawOf ((some items).getD #[])) = Rx.code := g8
      rw [e0]
      have e1 : min (Int.toNat 0) x.cps.size = 0 := Nat.zero_min _
      have e2 : min (2 ^ 63 - 1 : Int).toNat x.cps.size = x.cps.size := Nat.min_eq_right (Nat.le_trans hz (by decide))
      rw [e1, e2]
      unfold reAnswer
      dsimp only
      refine wpAny_bind (Rx.toEnd_ok hto (fun _ h => h.out) fun m hm => ?_)
      dsimp only
      refine wpAny_bind ?_
      refine newMatch_ok (by rw [hm.marks, hm.lm]; exact hwr) ?_
      have P1 := Stp.push s { cls := .type "tuple", data := .seq (([(m.start : Int), (m.handed : Int)] ++ Rx.spansOf m.marks m.lastmark).map rawInt).toArray }
      have P2 := Stp.push ({ s with heap := s.heap.push { cls := .type "tuple", data := .seq (([(m.start : Int), (m.handed : Int)] ++ Rx.spansOf m.marks m.lastmark).map rawInt).toArray } } : Shared) { cls := .type "re.Match", data := .fields #[.str x t, .ref pat, rawInt (0 : Nat), rawInt x.cps.size, rawInt m.lastindex, .ref s.heap.objs.size] }
      have gm : ((s.heap.push { cls := .type "tuple", data := .seq (([(m.start : Int), (m.handed : Int)] ++ Rx.spansOf m.marks m.lastmark).map rawInt).toArray }).push { cls := .type "re.Match", data := .fields #[.str x t, .ref pat, rawInt (0 : Nat), rawInt x.cps.size, rawInt m.lastindex, .ref s.heap.objs.size] }).get? (s.heap.objs.size + 1) = some { cls := .type "re.Match", data := .fields #[.str x t, .ref pat, rawInt (0 : Nat), rawInt x.cps.size, rawInt m.lastindex, .ref s.heap.objs.size] } := by
        have : Heap.get? ((s.heap.push { cls := .type "tuple", data := .seq (([(m.start : Int), (m.handed : Int)] ++ Rx.spansOf m.marks m.lastmark).map rawInt).toArray }).push { cls := .type "re.Match", data := .fields #[.str x t, .ref pat, rawInt (0 : Nat), rawInt x.cps.size, rawInt m.lastindex, .ref s.heap.objs.size] }) (s.heap.push { cls := .type "tuple", data := .seq (([(m.start : Int), (m.handed : Int)] ++ Rx.spansOf m.marks m.lastmark).map rawInt).toArray }).objs.size = some { cls := .type "re.Match", data := .fields #[.str x t, .ref pat, rawInt (0 : Nat), rawInt x.cps.size, rawInt m.lastindex, .ref s.heap.objs.size] } := Heap.get?_push_size _ rfl
        rwa [Heap.size_push] at this
      have gs : ((s.heap.push { cls := .type "tuple", data := .seq (([(m.start : Int), (m.handed : Int)] ++ Rx.spansOf m.marks m.lastmark).map rawInt).toArray }).push { cls := .type "re.Match", data := .fields #[.str x t, .ref pat, rawInt (0 : Nat), rawInt x.cps.size, rawInt m.lastindex, .ref s.heap.objs.size] }).get? s.heap.objs.size = some { cls := .type "tuple", data := .seq (([(m.start : Int), (m.handed : Int)] ++ Rx.spansOf m.marks m.lastmark).map rawInt).toArray } := Heap.get?_push_of_some _ (Heap.get?_push_size _ rfl)
      refine wpAny_pure ⟨_, rfl, hR _ _ (P1.tr P2) fun O hO => ?_⟩
      have es : [(m.start : Int), (m.handed : Int)] ++ Rx.spansOf m.marks m.lastmark = Rx.spans a b c p q := by
        rw [hm.start, hm.handed, hm.marks, hm.lm]; exact hsp
      show Rep O _ _ (.mtch pat x (Rx.spans a b c p q))
      rw [← es]
      exact .mtch (fun h => absurd (hO _ h) (Nat.not_lt.mpr (Nat.le_succ _))) (fun h => absurd (hO _ h) (Nat.lt_irrefl _)) gm rfl rfl rfl gs rfl rfl (Nat.le_trans hlen (by decide))
    · cases h
end
end Mine
end
section
open PySem PySem.W PyProof.Rows
set_option maxRecDepth 100000
namespace Mine
open PySem.Builtin.Re

section
variable {prog : Program} {w : World} {K : Frag} {B : Nat}
theorem grp_ok {A : Around} {E : Value → Shared → Prop} {s : Shared} {Q : Value → Shared → Prop} {X : ReFound} {x : Str} {t : Tok} {sp : List Int} {g : Nat} (hx : x.length ≤ sizeLine) (h0 : X.fields.getD 0 .none = .str x t) (hs : X.spans = sp.toArray)
    (q : ∀ v k, s.toks ≤ k → (∀ O h, Rep O h v (grp x (sp.getD (2 * g) (-1)) (sp.getD (2 * g + 1) (-1)))) → Q v { s with toks := k }) : wpAny (model prog w) A (reGroupText X g .none) Q E s := by
  have gd : ∀ i, X.spans.getD i (-1) = sp.getD i (-1) := fun i => by
    rw [hs, Array.getD_eq_getD_getElem?, List.getD_eq_getElem?_getD]; simp
  unfold reGroupText
  dsimp only
  rw [gd, gd, h0]
  unfold grp at q
  split
  · rename_i hc
    refine wpAny_pure ?_
    have := q .none s.toks (Nat.le_refl _) fun O h => by rw [if_pos hc]; exact .none
    exact this
  · rename_i hc
    refine wpAny_bind (wpAny_of_eq (a := (x.cps, 0)) (by rfl) ?_)
    dsimp only
    unfold reSlice
    have hz : (⟨x.cps.extract (sp.getD (2 * g) (-1)).toNat (sp.getD (2 * g + 1) (-1)).toNat⟩ : Str).length ≤ sizeLine := by
      refine Nat.le_trans ?_ hx
      show (x.cps.extract _ _).size ≤ x.cps.size
      rw [Array.size_extract]
      omega
    exact wpAny_mkStr (hx := hz) (q _ (s.toks + 1) (Nat.le_succ _) fun O h => by
      rw [if_neg hc]
      exact .str _ _ hz)
theorem grps_ok {A : Around} {E : Value → Shared → Prop} {X : ReFound} {x : Str} {t : Tok} {sp : List Int} (hx : x.length ≤ sizeLine) (h0 : X.fields.getD 0 .none = .str x t) (hs : X.spans = sp.toArray) : ∀ (l : List Nat) {s : Shared} {Q : List Value → Shared → Prop},
    (∀ vs k, s.toks ≤ k → (∀ O h, RepL O h vs (l.map fun g => grp x (sp.getD (2 * (g + 1)) (-1)) (sp.getD (2 * (g + 1) + 1) (-1)))) → Q vs { s with toks := k }) → wpAny (model prog w) A (l.mapM fun g => reGroupText X (g + 1) .none) Q E s
  | [], s, Q, q => by
    rw [List.mapM_nil]
    exact wpAny_pure (q [] s.toks (Nat.le_refl _) fun _ _ => .nil)
  | g :: l, s, Q, q => by
    rw [List.mapM_cons]
    refine wpAny_bind (grp_ok hx h0 hs fun v k hk r => wpAny_bind (grps_ok hx h0 hs l fun vs k' hk' rs => wpAny_pure (q (v :: vs) k' (Nat.le_trans hk hk') fun O h => .cons (r O h) (rs O h))))
theorem groups_code {pat : Addr} {x : Str} {sp : List Int} {O : List Addr} {v : Value} (hlen : sp.length ≤ 100) : MeetsIn prog w (Builtin.«re.Match.groups» ⟨[v], []⟩)
    (fun A R s => Rep O s.heap v (.mtch pat x sp) ∧ ∀ v' s', Stp [] s s' → (OLow O s → Rep O s'.heap v' (groupsX x sp)) → R (.ok (.ret v')) s') :=
  MeetsIn.of_wp fun A R s hS => by
    obtain ⟨r, hR⟩ := hS
    obtain ⟨a, spa, t, p0, p1, p2, n, o, os, rfl, ha, hsp, ho, hc, hdi, hd, hos, hcs, hds, hx⟩ := r.inv
    · unfold Builtin.«re.Match.groups» reWithDefault
      dsimp only
      rw [named_groups]
      refine wpAny_bind ?_
      refine wpAny_bind (wpAny_pure ?_)
      dsimp only
      refine wpAny_bind ?_
      unfold reFound
      refine wpAny_bind (wpAny_fieldsOf ho hd ?_)
      refine wpAny_bind ?_
      unfold reRawItems
      refine wpAny_bind (wpAny_seqItems hos hds ?_)
      refine wpAny_pure (wpAny_pure (wpAny_pure ?_))
      dsimp only
      have es : ((some (sp.map rawInt).toArray).getD #[]).map reRawOf = sp.toArray := map_raw sp
      refine wpAny_bind ?_
      refine grps_ok (x := x) (t := t) (sp := sp) hx rfl es _ fun vs k hk rs => ?_
      have hsz : (((some (sp.map rawInt).toArray).getD #[]).map reRawOf).size = sp.length := by rw [es]; simp
      rw [hsz] at rs
      refine wpAny_bind ?_
      simp only [newTuple]
      have hl : vs.length ≤ sizeLine := by
        rw [(rs [] s.heap).length, List.length_map, List.length_range]
        exact Nat.le_trans (Nat.le_trans (Nat.sub_le _ _) (Nat.div_le_self _ _)) (Nat.le_trans hlen (by decide))
      refine wpAny_newObj_type ?_ (by show (List.toArray vs).size ≤ sizeLine; rw [List.size_toArray]; exact hl)
      have P := Stp.push ({ s with toks := k } : Shared) { cls := .type "tuple", data := .seq vs.toArray }
      exact wpAny_pure ⟨_, rfl, hR _ _ ((Stp.toks hk).tr P) fun hO => .tup (n := 0) (fun hm => absurd (hO _ hm) (Nat.lt_irrefl _)) (Heap.get?_push_size _ rfl) rfl rfl (rs O _)⟩
end
end Mine
end
section
open PySem PySem.W PyProof.Rows
set_option maxRecDepth 100000
namespace Mine

theorem Rep.mtch_inv {O : List Addr} {h : Heap} {v : Value} {pat : Addr} {x : Str} {sp : List Int} (r : Rep O h v (.mtch pat x sp)) : ∃ a o, v = .ref a ∧ h.get? a = some o ∧ o.cls = .type "re.Match" ∧ o.dict = Option.none := by
  obtain ⟨_, _, _, _, _, _, _, _, _, rfl, ha, hsp, ho, hcl, hdi, hd, hos, hcs, hds, hx⟩ := r.inv
  exact ⟨_, _, rfl, ho, hcl, hdi⟩
noncomputable def methX (K : Frag) (ownv : Addr → Option Str) (o : Ops) (r : Rcv) (x : Str) (as : List D) (ks : List (Str × D)) : Option D := match r with
  | .self C fs => selfX K ownv o C fs x as ks
  | .dat (.glob (.ref pat)) => (match as, ks with
    | [.str y], [] => if x = "match" then matchX K pat y else none
    | _, _ => none)
  | .dat (.mtch _ y sp) => (match as, ks with
    | [], [] => if x = "groups" ∧ sp.length ≤ 100 then some (groupsX y sp) else none
    | _, _ => none)
  | _ => none
/-- a text for an f-string's field -/
noncomputable def fmtX (K : Frag) (o : Ops) : D → Option Str
  | .str x => if x.length ≤ 1000 then some x else none
  | .obj C fs => (match findIn K (.ref C) "__str__" with
    | some (some (.ref g)) => if isFn K (.ref g) then (match o.call (.glob (.ref g)) [.obj C fs] [] with
      | some (.str y) => if y.length ≤ 1000 then some y else none
      | _ => none) else none
    | _ => none)
  | _ => none
noncomputable def theX (K : Frag) (ownv : Addr → Option Str) : Extra := ⟨binX K, callX K, methX K ownv, textsX, gensX K, fmtX K⟩

section
variable {prog : Program} {w : World} {K : Frag} {B : Nat} (k : Kok K B) {n : Nat} {ops : Ops} (ok : OpsOk prog w K B n ops) {A : Around} (hA : Room A (n + 1))
include k ok hA in
theorem methX_ok {ownv : Addr → Option Str} {r : Rcv} {x : Str} {as : List D} {ks : List (Str × D)} {d : D} (h : methX K ownv ops r x as ks = some d) {O : List Addr} {s : Shared} {v : Value} (I : Inv K B s) (hO : OLow O s) (rr : RRep O s.heap v r) (pl : Sem Bool) {Q : Value × List Value → Shared → Prop} {E : Value → Shared → Prop}
    (q : ∀ f first s', Stp [] s s' → CalleeOk prog w O A s' f first as ks d → Q (f, first) s') : wpAny (model prog w) A (getMethod v x pl) Q E s := by
  unfold methX at h
  split at h
  · exact selfX_ok k ok hA h I hO rr pl q
  · rename_i pat
    have rr : Rep O s.heap v (.glob (.ref pat)) := rr
    cases rr
    split at h
    · rename_i y
      split at h
      · rename_i hx
        subst hx
        have hp : isVerPat K pat = true := by
          unfold matchX at h
          split at h
          · rename_i hc; exact hc.1
          · cases h
        obtain ⟨o, fs, ct, oc, items, n', g1, g2, g3, _⟩ := pat_at hp I
        have hT : s.TypeIs (.ref pat) "re.Pattern" := ⟨o, g1, g2⟩
        refine getMethod_builtin hT pa_pat slot_match type_match (fun a e => by cases e; exact ⟨o, g1, g3⟩) (q _ _ s (.refl _ _) fun s' z => ⟨keeper_machine (.inl ⟨_, rfl⟩) _, fun vs kv ra rk Q' E' q' => ?_⟩)
        obtain ⟨_, _, rfl, r1, ra⟩ := ra.inv
        obtain rfl := ra.inv
        obtain rfl := rk.inv
        have r1 : Rep O s'.heap _ (.str y) := r1
        obtain ⟨t, rfl, hyl⟩ := r1.inv
        have I' := I.on k z
        obtain ⟨o, fs, ct, oc, items, n', g1, g2, g3, _⟩ := pat_at hp I'
        have hT : s'.TypeIs (.ref pat) "re.Pattern" := ⟨o, g1, g2⟩
        exact wpAny_call (codeAny_call_builtin slot_match.plain entry_match (slot_match.check _ _ _ _ _ _ _ _ hT (args_match _ _) (reMatch_code (prog := prog) (w := w) (t := t) h A (wants Q' E') s' ⟨I', fun v s'' u r => q' v s'' u (r O (hO.on z))⟩)))
      · cases h
    · cases h
  · rename_i pat y sp
    split at h
    · split at h
      · rename_i hc
        obtain ⟨rfl, hlen⟩ := hc
        cases h
        have rr : Rep O s.heap v (.mtch pat y sp) := rr
        obtain ⟨a, o, rfl, ho, hcl, hdi⟩ := rr.mtch_inv
        have hT : s.TypeIs (.ref a) "re.Match" := ⟨o, ho, hcl⟩
        refine getMethod_builtin hT pa_mat slot_groups type_groups (fun a' e => by cases e; exact ⟨o, ho, hdi⟩) (q _ _ s (.refl _ _) fun s' z => ⟨keeper_machine (.inl ⟨_, rfl⟩) _, fun vs kv ra rk Q' E' q' => ?_⟩)
        obtain rfl := ra.inv
        obtain rfl := rk.inv
        have ho' := z.keep _ _ ho (notTab_cls hcl (by intro q; cases q)) (by simp)
        have hT' : s'.TypeIs (.ref a) "re.Match" := ⟨o, ho', hcl⟩
        exact wpAny_call (codeAny_call_builtin slot_groups.plain entry_groups (slot_groups.check _ _ _ _ _ _ _ _ hT' (args_groups _) (groups_code (prog := prog) (w := w) (O := O) (pat := pat) (x := y) hlen A (wants Q' E') s' ⟨rr.on z, fun v s'' u r => q' v s'' u (r (hO.on z))⟩)))
      · cases h
    · cases h
  · cases h
include k ok hA in
theorem fmtX_ok {a : D} {x : Str} (h : fmtX K ops a = some x) {O : List Addr} {s : Shared} {v : Value} (I : Inv K B s) (hO : OLow O s) (ra : Rep O s.heap v a) (Q : Value → Shared → Prop) (E : Value → Shared → Prop) (q : ∀ v' s' t, Stp [] s s' → v' = .str x t → Q v' s') : x.length ≤ 1000 ∧ wpAny (model prog w) A (convS v) Q E s := by
  unfold fmtX at h
  split at h
  · split at h
    · rename_i hl
      cases h
      obtain ⟨t, rfl, hz⟩ := ra.inv
      exact ⟨hl, wpAny_habitSame_str (q _ _ _ (.refl _ _) rfl) (q _ _ _ (.fresh s 1) rfl) hz⟩
    · cases h
  · rename_i C fs
    split at h
    · rename_i g hg
      split at h
      · rename_i hf
        split at h
        · rename_i y hy
          split at h
          · rename_i hl
            cases h
            refine ⟨hl, ?_⟩
            obtain ⟨a, dx, es, n', rfl, hne, h1, h2, rf⟩ := SelfAt.of ra
            have IA : InstAt s.heap a (instObj C dx) C (some (dictOf es n')) := ⟨h1, rfl, rfl, h2⟩
            have c := (ok.call hy (hA.less (Nat.le_succ n)) I hO (.glob (.ref g))) s (.refl _ _)
            have hu : A.units < cLine := by have := hA.units; omega
            show wpAny _ A (pyStrObj (.ref a)) Q E s
            refine kfo_str hu I.X IA hg hf (c.2 [_] [] (.cons ra .nil) .nil _ _ fun v s'' z r => ?_)
            obtain ⟨t, rfl, hx⟩ := r.inv
            exact q _ _ t z rfl
          · cases h
        · cases h
      · cases h
    · cases h
  · cases h
end
section
variable {prog : Program} {w : World} {K : Frag} {B : Nat} (k : Kok K B) {ownv : Addr → Option Str}
include k in
theorem theX_ok : ExtraOk prog w K B (theX K ownv) where
  bin := fun ok => fun h => fun hA I hO ra rb => binX_ok k ok h hA I hO ra rb
  call := fun ok => fun h => fun hA I hO rf => callX_ok k ok h hA I hO rf
  meth := fun ok => fun h => fun hA I hO rr pl Q E q => methX_ok k ok hA h I hO rr pl q
  texts := fun h => fun hA he hs hO e1 e2 hc hg hit => textsX_ok k h hA he hs hO e1 e2 hc hg hit
  fmt := fun ok => fun h => fun hA I hO ra Q E q => fmtX_ok k ok hA h I hO ra Q E q
  gens := fun ok => fun h => fun hA he hsc hs hO hc hg hit => gensX_ok k ok h hA he hsc hs hO hc hg hit
include k in
theorem ops_ok (n : Nat) : OpsOk prog w K B n (opsAt K ownv (theX K ownv) n) := opsAt_ok k (theX_ok k) n
end
end Mine
end
section
open PySem PySem.W PyProof.Rows
set_option maxRecDepth 100000
namespace Mine

/-- it comes to something, and Q holds of it -/
noncomputable def W {α : Type} (x : Option α) (Q : α → Prop) : Prop := ∃ a, x = some a ∧ Q a
theorem W.mono {α : Type} {x : Option α} {Q R : α → Prop} (h : W x Q) (k : ∀ a, Q a → R a) : W x R := let ⟨a, e, q⟩ := h; ⟨a, e, k a q⟩
abbrev EP := Expr → (D → Prop) → Prop
abbrev TP := Expr → (Bool → Prop) → Prop

noncomputable def wEs (F : EP) : List Expr → (List D → Prop) → Prop
  | [], Q => Q []
  | e :: r, Q => match notStar e with
    | true => F e fun d => wEs F r fun ds => Q (d :: ds)
    | false => False
noncomputable def wKs (F : EP) : List Keyword → (List (Str × D) → Prop) → Prop
  | [], Q => Q []
  | ⟨some n, e, _⟩ :: r, Q => F e fun d => wKs F r fun ds => Q ((n, d) :: ds)
  | _, _ => False
noncomputable def wBool (F : EP) (tru : D → Option Bool) (op : BoolOp) : List Expr → (D → Prop) → Prop
  | [], _ => False
  | [e], Q => F e Q
  | e :: r, Q => F e fun d => W (tru d) fun t => match op, t with
    | .And, false => Q d
    | .Or, true => Q d
    | _, _ => wBool F tru op r Q
noncomputable def wAll (G : TP) (op : BoolOp) : List Expr → (Bool → Prop) → Prop
  | [], Q => Q (op == .And)
  | e :: r, Q => G e fun t => match op, t with
    | .And, false => Q false
    | .Or, true => Q true
    | _, _ => wAll G op r Q
noncomputable def wPart (fm : D → Option Str) (F : EP) : Expr → (Str → Prop) → Prop
  | .Constant (.str s) _ _, Q => match decide (s.length ≤ 1000) with
    | true => Q s
    | false => False
  | .FormattedValue v k none _, Q => match decide (k = 115) with
    | true => F v fun d => W (fm d) Q
    | false => False
  | _, _ => False
noncomputable def wParts (fm : D → Option Str) (F : EP) : List Expr → (Str → Prop) → Prop
  | [], Q => Q Str.empty
  | e :: r, Q => wPart fm F e fun x => wParts fm F r fun y => x.length + y.length ≤ 5000 ∧ Q (x ++ y)
noncomputable def wRcv (c : PC) (F : EP) (e : Expr) (Q : Rcv → Prop) : Prop := match c.ρ.own, isName e with
  | .inst x C fs, some y => if x = y then (match (!(y == ("__debug__" : Str)) && c.sc.names.lookup y == some .local) with
    | true => Q (.self C fs)
    | false => False) else F e fun d => Q (.dat d)
  | _, _ => F e fun d => Q (.dat d)
noncomputable def noGen : List Expr → Bool
  | [.GeneratorExp ..] => false
  | _ => true
theorem genOf_none {es : List Expr} {kws : List Keyword} (h : noGen es = true) : genOf es kws = none := by
  unfold genOf
  split
  · cases h
  · rfl
noncomputable def wEStep (c : PC) (F : EP) (G : TP) : Expr → (D → Prop) → Prop
  | .Constant k _ _, Q => match litD k with
    | some d => Q d
    | none => False
  | .Name x _, Q => match nameD c x with
    | some d => Q d
    | none => False
  | .BoolOp op es _, Q => wBool F c.ops.tru op es Q
  | .BinOp l op r _, Q => F l fun a => F r fun b => W (c.ops.bin op a b) Q
  | .UnaryOp op x _, Q => match op with
    | .Not => F x fun a => W (c.ops.tru a) fun b => Q (.bool (!b))
    | _ => False
  | .IfExp t b o _, Q => G t fun v => match v with
    | true => F b Q
    | false => F o Q
  | .Compare l ops rs _, Q => match ops, rs with
    | [op], [r] => (match plainExpr r with
      | true => F l fun a => F r fun b => W (c.ops.cmp op a b) Q
      | false => False)
    | _, _ => False
  | .Tuple es _ _, Q => wEs F es fun ds => match decide (ds.length ≤ 1000) with
    | true => Q (.tup ds)
    | false => False
  | .List es _, Q => wEs F es fun ds => match decide (ds.length ≤ 1000) with
    | true => Q (.list ds)
    | false => False
  | .Attribute v a _, Q => match noSuper v with
    | true => wRcv c F v fun r => W (c.ops.attr r a) Q
    | false => False
  | .Subscript v i _, Q => match isSlice i with
    | true => False
    | false => F v fun a => F i fun b => W (c.ops.item a b) Q
  | .Call fn es kws pos, Q => match fn with
    | .Attribute v a apos => (match (noSuper v && callOk es.length kws && apos.endLine == pos.line) with
      | true => wRcv c F v fun r => wEs F es fun ds => wKs F kws fun ks => W (c.ops.meth r a ds ks) Q
      | false => False)
    | .Name x p => (match genOf es kws with
      | some (elt, y, _, it, sc, _) => (match (genOk c.sc sc x y it && isTupT (c.glob x)) with
        | true => F it fun a => W (c.ops.gens sc y elt a) Q
        | false => False)
      | none => match (callOk es.length kws && noGen es) with
        | true => F (.Name x p) fun h => wEs F es fun ds => wKs F kws fun ks => W (c.ops.call h ds ks) Q
        | false => False)
    | _ => False
  | .JoinedStr es _, Q => match es with
    | v₁ :: v₂ :: r => wParts c.ops.fmtS F (v₁ :: v₂ :: r) fun y => Q (.str y)
    | _ => False
  | .ListComp elt gens sc _, Q => match textOf elt gens with
    | some (h, _, x, _, _, y, _, it) => (match (h == ("str" : Str) && x == y && compOk sc x it && isStrT (c.glob h)) with
      | true => F it fun a => W (c.ops.textsOf a) Q
      | false => False)
    | none => False
  | _, _ => False
noncomputable def wTStep (c : PC) (F : EP) (G : TP) : Expr → (Bool → Prop) → Prop
  | .UnaryOp .Not x _, Q => G x fun t => Q (!t)
  | .BoolOp op es _, Q => wAll G op es Q
  | .IfExp t b o _, Q => G t fun v => match v with
    | true => G b Q
    | false => G o Q
  | .Compare l [op] [r] _, Q => match plainExpr r with
    | true => F l fun a => F r fun b => W (c.ops.cmp op a b) fun d => W (c.ops.tru d) Q
    | false => False
  | .Compare .., _ => False
  | e, Q => F e fun d => W (c.ops.tru d) Q
noncomputable def wBoth (c : PC) : Nat → EP × TP
  | 0 => (fun _ _ => False, fun _ _ => False)
  | n + 1 => (wEStep c (wBoth c n).1 (wBoth c n).2, wTStep c (wBoth c n).1 (wBoth c n).2)
noncomputable def wE (c : PC) (n : Nat) (e : Expr) (Q : D → Prop) : Prop := (wBoth c n).1 e Q
noncomputable def wT (c : PC) (n : Nat) (e : Expr) (Q : Bool → Prop) : Prop := (wBoth c n).2 e Q

/-- a frame that knows more names -/
noncomputable def PC.more (c : PC) (g' : Str → Option Value) : PC := ⟨c.sc, c.ρ, g', c.ops⟩
theorem more_ops (c : PC) (g' : Str → Option Value) : (c.more g').ops = c.ops := rfl
section
variable {c : PC} {g' : Str → Option Value} (hgl : ∀ x v, c.glob x = some v → g' x = some v) {f : Expr → Option D} {g : Expr → Option Bool} {F : EP} {G : TP} (hF : ∀ e Q, F e Q → W (f e) Q) (hG : ∀ e Q, G e Q → W (g e) Q)
include hF in
theorem wEs_ok : ∀ {es : List Expr} {Q : List D → Prop}, wEs F es Q → W (evsWith f es) Q
  | [], Q, h => ⟨[], rfl, h⟩
  | e :: r, Q, h => by
    unfold wEs at h
    split at h
    · rename_i hs
      obtain ⟨d, hd, h⟩ := hF _ _ h
      obtain ⟨ds, hds, h⟩ := wEs_ok h
      exact ⟨d :: ds, by unfold evsWith; rw [if_pos hs, hd, hds], h⟩
    · exact h.elim
include hF in
theorem wKs_ok : ∀ {es : List Keyword} {Q : List (Str × D) → Prop}, wKs F es Q → W (evkWith f es) Q
  | [], Q, h => ⟨[], rfl, h⟩
  | ⟨some n, e, p⟩ :: r, Q, h => by
    unfold wKs at h
    obtain ⟨d, hd, h⟩ := hF _ _ h
    obtain ⟨ds, hds, h⟩ := wKs_ok h
    exact ⟨(n, d) :: ds, by unfold evkWith; rw [hd, hds], h⟩
  | ⟨none, e, p⟩ :: r, Q, h => h.elim
include hF in
theorem wBool_ok {op : BoolOp} : ∀ {es : List Expr} {Q : D → Prop}, wBool F c.ops.tru op es Q → W (boolWith f c.ops.tru op es) Q
  | [], Q, h => h.elim
  | [e], Q, h => hF _ _ h
  | e :: e' :: r, Q, h => by
    unfold wBool at h
    obtain ⟨d, hd, t, ht, h⟩ := hF _ _ h
    unfold boolWith
    rw [hd]
    dsimp only
    rw [ht]
    cases op <;> cases t
    · exact ⟨d, rfl, h⟩
    · exact wBool_ok (es := e' :: r) h
    · exact wBool_ok (es := e' :: r) h
    · exact ⟨d, rfl, h⟩
include hG in
theorem wAll_ok {op : BoolOp} : ∀ {es : List Expr} {Q : Bool → Prop}, wAll G op es Q → W (allWith g op es) Q
  | [], Q, h => ⟨_, rfl, h⟩
  | e :: r, Q, h => by
    unfold wAll at h
    obtain ⟨t, ht, h⟩ := hG _ _ h
    unfold allWith
    rw [ht]
    cases op <;> cases t
    · exact ⟨_, rfl, h⟩
    · exact wAll_ok (es := r) h
    · exact wAll_ok (es := r) h
    · exact ⟨_, rfl, h⟩
include hF in
theorem wParts_ok {fm : D → Option Str} : ∀ {es : List Expr} {Q : Str → Prop}, wParts fm F es Q → W (partsJ fm f es) Q
  | [], Q, h => ⟨_, rfl, h⟩
  | e :: r, Q, h => by
    have one : ∀ {Q : Str → Prop}, wPart fm F e Q → W (partJ fm f e) Q := by
      intro Q h
      unfold wPart at h
      split at h
      · split at h
        · rename_i hs
          exact ⟨_, by simp only [partJ, if_pos (of_decide_eq_true hs)], h⟩
        · exact h.elim
      · split at h
        · rename_i hs
          obtain ⟨d, hd, x, hx, h⟩ := hF _ _ h
          exact ⟨x, by simp only [partJ, if_pos (of_decide_eq_true hs), hd]; exact hx, h⟩
        · exact h.elim
      · exact h.elim
    unfold wParts at h
    obtain ⟨x, hx, h⟩ := one h
    obtain ⟨y, hy, hl, h⟩ := wParts_ok h
    exact ⟨x ++ y, by unfold partsJ; rw [hx, hy]; exact if_pos hl, h⟩
include hF in
theorem wRcv_ok {e : Expr} {Q : Rcv → Prop} (h : wRcv c F e Q) : W (rcvWith (c.more g') f e) Q := by
  have plain : (F e fun d => Q (.dat d)) → W ((f e).map Rcv.dat) Q := fun h => by
    obtain ⟨d, hd, h⟩ := hF _ _ h
    exact ⟨.dat d, by rw [hd]; rfl, h⟩
  unfold wRcv at h
  show W (rcvWith c f e) Q
  unfold rcvWith
  split at h
  · rename_i x C fs y h1 h2
    try rw [h1, h2]
    try dsimp only
    split at h
    · rename_i hxy
      rw [if_pos hxy]
      split at h
      · rename_i hc
        rw [Bool.and_eq_true, Bool.not_eq_true', beq_iff_eq] at hc
        exact ⟨_, if_pos hc, h⟩
      · exact h.elim
    · rename_i hxy
      rw [if_neg hxy]
      exact plain h
  · rename_i hne
    first
    | exact plain h
    | (split
       · rename_i x C fs y h1 h2
         exact (hne _ _ _ _ h1 h2).elim
       · exact plain h)

include hgl in
theorem nameD_more {x : Str} {d : D} (h : nameD c x = some d) : nameD (c.more g') x = some d := by
  unfold nameD at h ⊢
  split at h
  · cases h
  · rename_i hd
    rw [if_neg hd]
    show (match c.sc.names.lookup x with
      | some .local => c.ρ.vars.lookup x
      | some .globalImplicit => (g' x).map globD
      | _ => Option.none) = some d
    split at h
    · rename_i hk; try rw [hk]
      exact h
    · rename_i hk
      try rw [hk]
      obtain ⟨v, hv, rfl⟩ := Option.map_eq_some_iff.mp h
      try dsimp only
      rw [hgl x v hv]; rfl
    · cases h
include hgl in
theorem isTupT_more {x : Str} (h : isTupT (c.glob x) = true) : isTupT (g' x) = true := by
  cases e : c.glob x with
  | none => rw [e] at h; cases h
  | some v => rw [hgl x v e, ← e]; exact h
include hgl in
theorem isStrT_more {x : Str} (h : isStrT (c.glob x) = true) : isStrT (g' x) = true := by
  cases e : c.glob x with
  | none => rw [e] at h; cases h
  | some v => rw [hgl x v e, ← e]; exact h
include hgl hF hG in
theorem wEStep_ok : ∀ e Q, wEStep c F G e Q → W (evStep (c.more g') f g e) Q := by
  intro e Q h
  unfold wEStep at h
  split at h
  · split at h
    · rename_i d hd
      exact ⟨d, hd, h⟩
    · exact h.elim
  · split at h
    · rename_i d hd
      exact ⟨d, nameD_more hgl hd, h⟩
    · exact h.elim
  · exact wBool_ok (c := c) hF h
  · obtain ⟨a, ha, h⟩ := hF _ _ h
    obtain ⟨b, hb, h⟩ := hF _ _ h
    simp only [evStep, more_ops, ha, hb]; exact h
  · split at h
    · obtain ⟨a, ha, t, ht, h⟩ := hF _ _ h
      simp only [evStep, more_ops, ha]; exact ⟨_, by rw [ht]; rfl, h⟩
    · exact h.elim
  · obtain ⟨v, hv, h⟩ := hG _ _ h
    simp only [evStep, more_ops, hv]
    cases v <;> exact hF _ _ h
  · split at h
    · split at h
      · rename_i hp
        obtain ⟨a, ha, h⟩ := hF _ _ h
        obtain ⟨b, hb, h⟩ := hF _ _ h
        simp only [evStep, more_ops, if_pos hp, ha, hb]; exact h
      · exact h.elim
    · exact h.elim
  · obtain ⟨ds, hds, h⟩ := wEs_ok hF h
    split at h
    · rename_i hl
      exact ⟨_, by simp only [evStep, more_ops, hds]; exact if_pos (of_decide_eq_true hl), h⟩
    · exact h.elim
  · obtain ⟨ds, hds, h⟩ := wEs_ok hF h
    split at h
    · rename_i hl
      exact ⟨_, by simp only [evStep, more_ops, hds]; exact if_pos (of_decide_eq_true hl), h⟩
    · exact h.elim
  · split at h
    · rename_i hp
      obtain ⟨r, hr, h⟩ := wRcv_ok (g' := g') hF h
      simp only [evStep, more_ops, if_pos hp, hr]; exact h
    · exact h.elim
  · rename_i v i p
    split at h
    · exact h.elim
    · rename_i hs
      obtain ⟨a, ha, h⟩ := hF _ _ h
      obtain ⟨b, hb, h⟩ := hF _ _ h
      simp only [evStep, more_ops, cutOf_none hs, hs, ha, hb]; exact h
  · split at h
    · split at h
      · rename_i hp
        obtain ⟨r, hr, h⟩ := wRcv_ok (g' := g') hF h
        obtain ⟨ds, hds, h⟩ := wEs_ok hF h
        obtain ⟨ks, hks, h⟩ := wKs_ok hF h
        simp only [evStep, more_ops, if_pos hp, hr, hds, hks]; exact h
      · exact h.elim
    · split at h
      · rename_i hgen
        split at h
        · rename_i hp
          rw [Bool.and_eq_true] at hp
          obtain ⟨a, ha, h⟩ := hF _ _ h
          have hp' : genOk (c.more g').sc _ _ _ _ = true ∧ isTupT ((c.more g').glob _) = true := ⟨hp.1, isTupT_more hgl hp.2⟩
          simp only [evStep, more_ops, hgen, if_pos hp', ha]; exact h
        · exact h.elim
      · rename_i hgen
        split at h
        · rename_i hp
          rw [Bool.and_eq_true] at hp
          obtain ⟨v, hv, h⟩ := hF _ _ h
          obtain ⟨ds, hds, h⟩ := wEs_ok hF h
          obtain ⟨ks, hks, h⟩ := wKs_ok hF h
          simp only [evStep, more_ops, hgen, if_pos hp.1, hv, hds, hks]; exact h
        · exact h.elim
    · exact h.elim
  · split at h
    · obtain ⟨y, hy, h⟩ := wParts_ok hF h
      exact ⟨.str y, by simp only [evStep, more_ops, hy]; rfl, h⟩
    · exact h.elim
  · split at h
    · rename_i htx
      split at h
      · rename_i hp
        simp only [Bool.and_eq_true, beq_iff_eq] at hp
        obtain ⟨a, ha, h⟩ := hF _ _ h
        simp only [evStep, more_ops, htx, if_pos (show _ ∧ _ ∧ _ ∧ isStrT ((c.more g').glob _) = true from ⟨hp.1.1.1, hp.1.1.2, hp.1.2, isStrT_more hgl hp.2⟩), ha]; exact h
      · exact h.elim
    · exact h.elim
  · exact h.elim
include hF hG in
theorem wTStep_ok : ∀ e Q, wTStep c F G e Q → W (tvStep (c.more g') f g e) Q := by
  intro e Q h
  unfold wTStep at h
  split at h
  · obtain ⟨t, ht, h⟩ := hG _ _ h
    exact ⟨!t, by simp only [tvStep, more_ops, ht]; rfl, h⟩
  · exact wAll_ok hG h
  · obtain ⟨v, hv, h⟩ := hG _ _ h
    simp only [tvStep, more_ops, hv]
    cases v <;> exact hG _ _ h
  · split at h
    · rename_i hp
      obtain ⟨a, ha, h⟩ := hF _ _ h
      obtain ⟨b, hb, d, hd, t, ht, h⟩ := hF _ _ h
      simp only [tvStep, more_ops, if_pos hp, ha, hb]
      exact ⟨t, by rw [hd]; exact ht, h⟩
    · exact h.elim
  · exact h.elim
  · rename_i h1 h2 h3 h4 h5
    obtain ⟨d, hd, t, ht, h⟩ := hF _ _ h
    have e : tvStep (c.more g') f g e = (f e).bind c.ops.tru := by
      cases e <;> first | rfl | exact (h5 _ _ _ _ rfl).elim | exact (h2 _ _ _ rfl).elim | exact (h3 _ _ _ _ rfl).elim | skip
      rename_i op x pos
      cases op <;> first | rfl | exact (h1 _ _ rfl).elim
    exact ⟨t, by rw [e, hd]; exact ht, h⟩
end
theorem wBoth_ok (c : PC) {g' : Str → Option Value} (hgl : ∀ x v, c.glob x = some v → g' x = some v) : ∀ n, (∀ e Q, (wBoth c n).1 e Q → W ((both (c.more g') n).1 e) Q) ∧ (∀ e Q, (wBoth c n).2 e Q → W ((both (c.more g') n).2 e) Q)
  | 0 => ⟨fun _ _ h => h.elim, fun _ _ h => h.elim⟩
  | n + 1 => ⟨wEStep_ok hgl (wBoth_ok c hgl n).1 (wBoth_ok c hgl n).2, wTStep_ok (wBoth_ok c hgl n).1 (wBoth_ok c hgl n).2⟩
theorem wE_ok {c : PC} {g' : Str → Option Value} (hgl : ∀ x v, c.glob x = some v → g' x = some v) {n : Nat} {e : Expr} {Q : D → Prop} (h : wE c n e Q) : W (ev (c.more g') n e) Q := (wBoth_ok c hgl n).1 e Q h
theorem wT_ok {c : PC} {g' : Str → Option Value} (hgl : ∀ x v, c.glob x = some v → g' x = some v) {n : Nat} {e : Expr} {Q : Bool → Prop} (h : wT c n e Q) : W (tv (c.more g') n e) Q := (wBoth_ok c hgl n).2 e Q h
end Mine
end
section
open PySem PySem.W PyProof.Rows
set_option maxRecDepth 100000
namespace Mine

abbrev QX := PFlow → PE → Prop
noncomputable def wLoop (c : FC) (tgt : Expr) (body : PE → QX → Prop) : List D → PE → QX → Prop
  | [], ρ, Q => Q .next ρ
  | d :: ds, ρ, Q => W (bindT c ρ tgt d) fun ρ₁ => body ρ₁ fun fl ρ₂ => match fl with
    | .next => wLoop c tgt body ds ρ₂ Q
    | .cont => wLoop c tgt body ds ρ₂ Q
    | .brk => Q .next ρ₂
    | .ret d => Q (.ret d) ρ₂
noncomputable def wFresh (c : FC) (ρ : PE) : Expr → (List D → Prop) → Prop
  | .List es _, Q => wEs (wE (c.pc ρ) c.fuel) es fun ds => match decide (ds.length ≤ 1000) with
    | true => Q ds
    | false => False
  | .BinOp l .Add r _, Q => wE (c.pc ρ) c.fuel l fun a => wE (c.pc ρ) c.fuel r fun b => W (addL a b) Q
  | _, _ => False
noncomputable def wSeq (c : FC) (ρ : PE) (e : Expr) (Q : List D → Prop) : Prop := wE (c.pc ρ) c.fuel e fun d => match d with
  | .tup l => Q l
  | .list l => Q l
  | _ => False
noncomputable def notCall : Expr → Bool
  | .Call .. => false
  | _ => true
noncomputable def wIter (c : FC) (ρ : PE) : Expr → (List D → Prop) → Prop
  | .Call (.Name f _) [e] [] _, Q => match (globIs c f (.type "range") && plainExpr e) with
    | true => wE (c.pc ρ) c.fuel e fun d => match d with
      | .int i => 0 ≤ i ∧ i ≤ 100 ∧ Q (rangeD 0 i.toNat)
      | _ => False
    | false => False
  | e, Q => match notCall e with
    | true => wSeq c ρ e Q
    | false => False
noncomputable def isOwnName (c : FC) (x : Str) : Bool := match c.ownv with
  | some y => y == x
  | none => false
noncomputable def wXStep (c : FC) (X : PE → List Stmt → QX → Prop) (ρ : PE) : Stmt → QX → Prop
  | .Pass _, Q => Q .next ρ
  | .Break _, Q => Q .brk ρ
  | .Continue _, Q => Q .cont ρ
  | .Return v _, Q => match v with
    | none => Q (.ret .none) ρ
    | some e => wE (c.pc (freeze ρ)) c.fuel e fun d => Q (.ret d) ρ
  | .Assign ts e _, Q => match ts with
    | [t] => (match t with
      | .Name x _ => (match plainExpr e with
        | false => False
        | true => match isOwnName c x with
          | true => (match ρ.own with
            | .none => wFresh c ρ e fun l => match isLocal c x with
              | true => Q .next ⟨ρ.vars.filter (·.1 != x), .lst x l⟩
              | false => False
            | _ => False)
          | false => match storable c ρ x with
            | true => wE (c.pc ρ) c.fuel e fun d => Q .next (setv ρ x d)
            | false => False)
      | .Tuple ts k tp => (match (plainExpr e && notTuple e) with
        | true => wE (c.pc ρ) c.fuel e fun d => W (bindT c ρ (.Tuple ts k tp) d) fun ρ' => Q .next ρ'
        | false => False)
      | .Attribute v a _ => (match v with
        | .Name y _ => (match plainExpr e with
          | true => (match ρ.own with
            | .inst x C fs => wE (c.pc ρ) c.fuel e fun d => match (x == y && isLocal c y && !(y == ("__debug__" : Str)) && c.setOk C a && decide (fs.length ≤ 50)) with
              | true => Q .next { ρ with own := .inst x C (putF a d fs) }
              | false => False
            | _ => False)
          | false => False)
        | _ => False)
      | _ => False)
    | _ => False
  | .If t b o _, Q => wT (c.pc ρ) c.fuel t fun v => match v with
    | true => X ρ b Q
    | false => X ρ o Q
  | .Assert t _ _, Q => wT (c.pc ρ) c.fuel t fun v => match v with
    | true => Q .next ρ
    | false => False
  | .Expr v _, Q => match appOf v with
    | some (y, p, a, apos, e, pos) => (match ρ.own with
      | .lst x l => if x = y then (match (a == ("append" : Str) && isLocal c y && !(y == ("__debug__" : Str)) && plainExpr e && (apos.endLine == pos.line) && decide (l.length ≤ 900)) with
        | true => wE (c.pc ρ) c.fuel e fun d => Q .next { ρ with own := .lst x (l ++ [d]) }
        | false => False) else wE (c.pc ρ) c.fuel (.Call (.Attribute (.Name y p) a apos) [e] [] pos) fun _ => Q .next ρ
      | _ => wE (c.pc ρ) c.fuel (.Call (.Attribute (.Name y p) a apos) [e] [] pos) fun _ => Q .next ρ)
    | none => match plainExpr v with
      | true => wE (c.pc ρ) c.fuel v fun _ => Q .next ρ
      | false => False
  | .For t it body els _, Q => match t, els with
    | .Name x xp, [] => (match plainExpr it with
      | true => wIter c ρ it fun l => wLoop c (.Name x xp) (fun ρ Q => X ρ body Q) l ρ Q
      | false => False)
    | _, _ => False
  | _, _ => False
noncomputable def wX (c : FC) : Nat → PE → List Stmt → QX → Prop
  | 0, _, _, _ => False
  | _ + 1, ρ, [], Q => Q .next ρ
  | n + 1, ρ, st :: r, Q => wXStep c (wX c n) ρ st fun fl ρ' => match fl with
    | .next => wX c n ρ' r Q
    | .brk => Q .brk ρ'
    | .cont => Q .cont ρ'
    | .ret d => Q (.ret d) ρ'

noncomputable def WX (x : Option (PFlow × PE)) (Q : QX) : Prop := ∃ fl ρ', x = some (fl, ρ') ∧ Q fl ρ'
/-- a frame that knows more -/
noncomputable def FC.more (c : FC) (g' : Str → Option Value) (s' : Addr → Str → Bool) : FC := ⟨c.sc, g', c.ops, c.ownv, s', c.fuel⟩
section
variable {c : FC} {g' : Str → Option Value} {s' : Addr → Str → Bool} (hgl : ∀ x v, c.glob x = some v → g' x = some v) (hst : ∀ C x, c.setOk C x = true → s' C x = true)
theorem fm_own : (c.more g' s').ownv = c.ownv := rfl
theorem fm_pc {ρ : PE} : (c.more g' s').pc ρ = (c.pc ρ).more g' := rfl
theorem fm_fuel : (c.more g' s').fuel = c.fuel := rfl
theorem fm_local {x : Str} : isLocal (c.more g' s') x = isLocal c x := rfl
theorem fm_stor {ρ : PE} {x : Str} : storable (c.more g' s') ρ x = storable c ρ x := rfl
theorem fm_set : (c.more g' s').setOk = s' := rfl
theorem setAll_more : ∀ {ts : List Expr} {ds : List D} {ρ : PE}, setAll (c.more g' s') ρ ts ds = setAll c ρ ts ds
  | [], [], _ => rfl
  | [], _ :: _, _ => rfl
  | t :: ts, [], _ => by cases t <;> rfl
  | t :: ts, d :: ds, ρ => by
    cases t <;> first | rfl | skip
    rename_i x p
    show (if storable c ρ x = true then setAll (c.more g' s') (setv ρ x d) ts ds else none) = (if storable c ρ x = true then setAll c (setv ρ x d) ts ds else none)
    rw [setAll_more]
theorem bindT_more {ρ : PE} {tgt : Expr} {d : D} : bindT (c.more g' s') ρ tgt d = bindT c ρ tgt d := by
  cases tgt <;> first | rfl | skip
  rename_i ts k p
  cases d <;> first | rfl | exact setAll_more
theorem wLoop_ok {tgt : Expr} {body : PE → QX → Prop} {f : PE → Option (PFlow × PE)} (hb : ∀ ρ Q, body ρ Q → WX (f ρ) Q) : ∀ {l : List D} {ρ : PE} {Q : QX}, wLoop c tgt body l ρ Q → WX (loopWith (c.more g' s') tgt f l ρ) Q
  | [], ρ, Q, h => ⟨_, _, rfl, h⟩
  | d :: ds, ρ, Q, h => by
    unfold wLoop at h
    obtain ⟨ρ₁, h1, h⟩ := h
    obtain ⟨fl, ρ₂, h2, h⟩ := hb _ _ h
    unfold loopWith
    rw [bindT_more, h1]
    dsimp only
    rw [h2]
    cases fl with
    | next => exact wLoop_ok hb h
    | cont => exact wLoop_ok hb h
    | brk => exact ⟨_, _, rfl, h⟩
    | ret d => exact ⟨_, _, rfl, h⟩
include hgl in
theorem wFresh_ok {ρ : PE} {e : Expr} {Q : List D → Prop} (h : wFresh c ρ e Q) : W (evFresh (c.more g' s') ρ e) Q := by
  unfold wFresh at h
  split at h
  · obtain ⟨ds, hds, h⟩ := wEs_ok (f := ev ((c.more g' s').pc ρ) c.fuel) (fun _ _ h => wE_ok (c := c.pc ρ) hgl h) h
    split at h
    · rename_i hl
      exact ⟨ds, by show (evsWith (ev ((c.more g' s').pc ρ) c.fuel) _).bind _ = _; rw [hds]; exact if_pos (of_decide_eq_true hl), h⟩
    · exact h.elim
  · obtain ⟨a, ha, h⟩ := wE_ok (c := c.pc ρ) hgl h
    obtain ⟨b, hb, l, hl, h⟩ := wE_ok (c := c.pc ρ) hgl h
    exact ⟨l, by show (ev ((c.more g' s').pc ρ) c.fuel _).bind _ = _; erw [ha]; show (ev ((c.more g' s').pc ρ) c.fuel _).bind _ = _; erw [hb]; exact hl, h⟩
  · exact h.elim
theorem own_is {x : Str} : isOwnName c x = decide (c.ownv = some x) := by
  unfold isOwnName
  cases c.ownv with
  | none => rfl
  | some y =>
    by_cases e : y = x
    · subst e; simp
    · simp [e]
include hgl in
theorem wSeq_ok {ρ : PE} {e : Expr} {Q : List D → Prop} (h : wSeq c ρ e Q) : W (match ev ((c.more g' s').pc ρ) c.fuel e with
    | some (.tup l) => some l
    | some (.list l) => some l
    | _ => none) Q := by
  obtain ⟨d, hd, h⟩ := wE_ok (c := c.pc ρ) hgl h
  have hd' : ev ((c.more g' s').pc ρ) c.fuel e = some d := hd
  rw [hd']
  cases d <;> first | exact ⟨_, rfl, h⟩ | exact h.elim
include hgl in
theorem wIter_ok {ρ : PE} {e : Expr} {Q : List D → Prop} (h : wIter c ρ e Q) : W (iterOf (c.more g' s') ρ e) Q := by
  unfold wIter at h
  split at h
  · split at h
    · rename_i hp
      rw [Bool.and_eq_true] at hp
      obtain ⟨d, hd, h⟩ := wE_ok (c := c.pc ρ) hgl h
      cases d <;> first | exact h.elim | skip
      rename_i f fp e p _ _ i
      obtain ⟨h0, h1, h⟩ := h
      have hg : globIs (c.more g' s') f (.type "range") = true := by
        have := hp.1
        unfold globIs at this ⊢
        simp only [Bool.and_eq_true, beq_iff_eq, Bool.not_eq_true'] at this ⊢
        exact ⟨⟨this.1.1, hgl _ _ this.1.2⟩, this.2⟩
      refine ⟨_, ?_, h⟩
      unfold iterOf
      have hd' : ev ((c.more g' s').pc ρ) (c.more g' s').fuel e = some (.int i) := hd
      simp only [hg, hp.2, Bool.and_self, if_true, hd']
      exact if_pos ⟨h0, h1⟩
    · exact h.elim
  · rename_i hne
    split at h
    · rename_i hc
      have := wSeq_ok (g' := g') (s' := s') hgl h
      cases e <;> first | exact this | cases hc
    · exact h.elim
include hgl hst in
theorem wXStep_ok {X : PE → List Stmt → QX → Prop} {f : PE → List Stmt → Option (PFlow × PE)} (hX : ∀ ρ st Q, X ρ st Q → WX (f ρ st) Q) {ρ : PE} {st : Stmt} {Q : QX} (h : wXStep c X ρ st Q) : WX (exStep (c.more g' s') f ρ st) Q := by
  unfold wXStep at h
  split at h
  · exact ⟨_, _, rfl, h⟩
  · exact ⟨_, _, rfl, h⟩
  · exact ⟨_, _, rfl, h⟩
  · split at h
    · exact ⟨_, _, rfl, h⟩
    · obtain ⟨d, hd, h⟩ := wE_ok (g' := g') (by exact hgl) h
      exact ⟨_, _, by simp only [exStep, fm_own, fm_pc, fm_fuel, fm_local, fm_stor, fm_set, bindT_more, hd]; rfl, h⟩
  · split at h
    · split at h
      · split at h
        · exact h.elim
        · rename_i hp
          split at h
          · rename_i ho
            rw [own_is] at ho
            have ho := of_decide_eq_true ho
            split at h
            · rename_i how
              obtain ⟨l, hl, h⟩ := wFresh_ok (g' := g') (s' := s') hgl h
              split at h
              · rename_i hx
                exact ⟨_, _, by simp only [exStep, fm_own, fm_pc, fm_fuel, fm_local, fm_stor, fm_set, bindT_more, if_pos hp, if_pos ho, how, hl]; exact if_pos hx, h⟩
              · exact h.elim
            · exact h.elim
          · rename_i ho
            rw [own_is] at ho
            have ho := of_decide_eq_false ho
            split at h
            · rename_i hs
              obtain ⟨d, hd, h⟩ := wE_ok (g' := g') (by exact hgl) h
              exact ⟨_, _, by simp only [exStep, fm_own, fm_pc, fm_fuel, fm_local, fm_stor, fm_set, bindT_more, if_pos hp, if_neg ho, if_pos hs, hd]; rfl, h⟩
            · exact h.elim
      · split at h
        · rename_i hp
          obtain ⟨d, hd, ρ', hb, h⟩ := wE_ok (g' := g') (by exact hgl) h
          exact ⟨_, _, by simp only [exStep, fm_own, fm_pc, fm_fuel, fm_local, fm_stor, fm_set, bindT_more, if_pos hp, hd]; rw [Option.bind_some, hb]; rfl, h⟩
        · exact h.elim
      · split at h
        · split at h
          · rename_i hp
            split at h
            · rename_i x C fs how
              obtain ⟨d, hd, h⟩ := wE_ok (g' := g') (by exact hgl) h
              split at h
              · rename_i hc
                simp only [Bool.and_eq_true, beq_iff_eq, Bool.not_eq_true', decide_eq_true_eq] at hc
                obtain ⟨⟨⟨⟨h1, h2⟩, h3⟩, h4⟩, h5⟩ := hc
                exact ⟨_, _, by simp only [exStep, fm_own, fm_pc, fm_fuel, fm_local, fm_stor, fm_set, bindT_more, if_pos hp, how, hd]; exact if_pos ⟨h1, h2, h3, hst _ _ h4, h5⟩, h⟩
              · exact h.elim
            · exact h.elim
          · exact h.elim
        · exact h.elim
      · exact h.elim
    · exact h.elim
  · obtain ⟨v, hv, h⟩ := wT_ok (g' := g') (by exact hgl) h
    cases v
    · obtain ⟨fl, ρ', e, h⟩ := hX _ _ _ h
      exact ⟨fl, ρ', by simp only [exStep, fm_own, fm_pc, fm_fuel, fm_local, fm_stor, fm_set, bindT_more, hv]; exact e, h⟩
    · obtain ⟨fl, ρ', e, h⟩ := hX _ _ _ h
      exact ⟨fl, ρ', by simp only [exStep, fm_own, fm_pc, fm_fuel, fm_local, fm_stor, fm_set, bindT_more, hv]; exact e, h⟩
  · obtain ⟨v, hv, h⟩ := wT_ok (g' := g') (by exact hgl) h
    cases v
    · exact h.elim
    · exact ⟨_, _, by simp only [exStep, fm_own, fm_pc, fm_fuel, fm_local, fm_stor, fm_set, bindT_more, hv], h⟩
  · split at h
    · rename_i hap
      split at h
      · rename_i x l how
        split at h
        · rename_i hxy
          split at h
          · rename_i hc
            simp only [Bool.and_eq_true, beq_iff_eq, Bool.not_eq_true', decide_eq_true_eq] at hc
            obtain ⟨⟨⟨⟨⟨h1, h2⟩, h3⟩, h4⟩, h5⟩, h6⟩ := hc
            obtain ⟨d, hd, h⟩ := wE_ok (g' := g') (by exact hgl) h
            exact ⟨_, _, by simp only [exStep, hap, fm_own, fm_pc, fm_fuel, fm_local, fm_stor, fm_set, bindT_more, how, if_pos hxy]; exact (if_pos ⟨h1, h2, h3, h4, by rw [beq_iff_eq]; exact h5, h6⟩).trans (by rw [hd]; rfl), h⟩
          · exact h.elim
        · rename_i hxy
          obtain ⟨d, hd, h⟩ := wE_ok (g' := g') (by exact hgl) h
          exact ⟨_, _, by simp only [exStep, hap, fm_own, fm_pc, fm_fuel, fm_local, fm_stor, fm_set, bindT_more, how, if_neg hxy, hd]; rfl, h⟩
      · rename_i hne
        obtain ⟨d, hd, h⟩ := wE_ok (g' := g') (by exact hgl) h
        cases how : ρ.own with
        | lst x l => exact (hne _ _ how).elim
        | none => exact ⟨_, _, by simp only [exStep, hap, fm_own, fm_pc, fm_fuel, fm_local, fm_stor, fm_set, bindT_more, how, hd]; rfl, h⟩
        | inst => exact ⟨_, _, by simp only [exStep, hap, fm_own, fm_pc, fm_fuel, fm_local, fm_stor, fm_set, bindT_more, how, hd]; rfl, h⟩
    · rename_i hap
      split at h
      · rename_i hp
        obtain ⟨d, hd, h⟩ := wE_ok (g' := g') (by exact hgl) h
        exact ⟨_, _, by simp only [exStep, hap, fm_own, fm_pc, fm_fuel, fm_local, fm_stor, fm_set, bindT_more, if_pos hp, hd]; rfl, h⟩
      · exact h.elim
  · split at h
    · split at h
      · rename_i hp
        obtain ⟨l, hl, h⟩ := wIter_ok (g' := g') (s' := s') hgl h
        obtain ⟨fl, ρ', e, h⟩ := wLoop_ok (g' := g') (s' := s') (f := fun ρ => f ρ _) (fun ρ Q h => hX ρ _ Q h) h
        exact ⟨fl, ρ', by simp only [exStep, fm_own, fm_pc, fm_fuel, fm_local, fm_stor, fm_set, bindT_more, if_pos hp, hl]; exact e, h⟩
      · exact h.elim
    · exact h.elim
  · exact h.elim
include hgl hst in
theorem wX_ok : ∀ n {ρ : PE} {st : List Stmt} {Q : QX}, wX c n ρ st Q → WX (exs (c.more g' s') n ρ st) Q
  | 0, _, _, _, h => h.elim
  | n + 1, ρ, [], Q, h => ⟨_, _, rfl, h⟩
  | n + 1, ρ, st :: r, Q, h => by
    unfold wX at h
    obtain ⟨fl, ρ', e, h⟩ := wXStep_ok (g' := g') (s' := s') hgl hst (fun ρ st Q h => wX_ok n h) h
    unfold exs
    rw [e]
    cases fl with
    | next => exact wX_ok n h
    | brk => exact ⟨_, _, rfl, h⟩
    | cont => exact ⟨_, _, rfl, h⟩
    | ret d => exact ⟨_, _, rfl, h⟩
end

/-- a function's run, by the calculus: gl, st know some of the names and stores -/
theorem runF_w {K : Frag} {ownv : Addr → Option Str} {ops : Ops} {f : Addr} {args : List D} {kws : List (Str × D)} {fd : FuncData} {body : List Stmt} {dd : List D} {b : List (Str × D)} {r : D} {gl : Str → Option Value} {st : Addr → Str → Bool}
    (hgl : ∀ x v, gl x = some v → globIn K x = some v) (hst : ∀ C x, st C x = true → settable K C x = true)
    (h1 : fnAt K f = some fd) (h2 : fnGood K fd = true) (h3 : fd.body = .stmts body) (h4 : dfl K fd.defaults = some dd) (h6 : bindL (fd.params.args.map (·.arg)) args kws dd = some b) (h5 : (b.all fun y => fd.scope.names.lookup y.1 == some .local) = true)
    (h : wX ⟨fd.scope, gl, ops, ownv f, st, 40⟩ 60 ⟨b.reverse, .none⟩ body fun fl _ => match fl with
      | .ret d => d = r
      | .next => .none = r
      | _ => False) : runF K ownv (settable K) ops f args kws = some r := by
  obtain ⟨fl, ρ', e, h⟩ := wX_ok (g' := globIn K) (s' := settable K) hgl hst _ h
  have e : exs ⟨fd.scope, globIn K, ops, ownv f, settable K, 40⟩ 60 ⟨b.reverse, .none⟩ body = some (fl, ρ') := e
  unfold runF
  rw [h1]
  dsimp only
  rw [if_pos h2, h3, h4]
  dsimp only
  rw [h6]
  dsimp only
  rw [if_pos h5, e]
  cases fl with
  | ret d => exact congrArg some h
  | next => exact congrArg some h
  | brk => exact h.elim
  | cont => exact h.elim
end Mine
end
section
open PySem PySem.W PyProof.Rows
set_option maxRecDepth 100000
namespace Mine

section
variable {c : PC} {F : EP} {G : TP} (hF : ∀ e Q R, (∀ d, Q d → R d) → F e Q → F e R) (hG : ∀ e Q R, (∀ d, Q d → R d) → G e Q → G e R)
include hF in
theorem wEs_mono : ∀ {es : List Expr} {Q R : List D → Prop}, (∀ d, Q d → R d) → wEs F es Q → wEs F es R
  | [], _, _, k, h => k _ h
  | e :: r, Q, R, k, h => by
    unfold wEs at h ⊢
    split at h
    · rename_i hs
      exact hF _ _ _ (fun d h => wEs_mono (fun ds h => k _ h) h) h
    · exact h.elim
include hF in
theorem wKs_mono : ∀ {es : List Keyword} {Q R : List (Str × D) → Prop}, (∀ d, Q d → R d) → wKs F es Q → wKs F es R
  | [], _, _, k, h => k _ h
  | ⟨some n, e, p⟩ :: r, Q, R, k, h => hF _ _ _ (fun d h => wKs_mono (fun ds h => k _ h) h) h
  | ⟨none, e, p⟩ :: r, Q, R, k, h => h.elim
include hF in
theorem wBool_mono {tru : D → Option Bool} {op : BoolOp} : ∀ {es : List Expr} {Q R : D → Prop}, (∀ d, Q d → R d) → wBool F tru op es Q → wBool F tru op es R
  | [], _, _, _, h => h.elim
  | [e], _, _, k, h => hF _ _ _ k h
  | e :: e' :: r, Q, R, k, h => by
    unfold wBool at h ⊢
    refine hF _ _ _ (fun d h => h.mono fun t h => ?_) h
    cases op <;> cases t
    · exact k _ h
    · exact wBool_mono (es := e' :: r) k h
    · exact wBool_mono (es := e' :: r) k h
    · exact k _ h
include hG in
theorem wAll_mono {op : BoolOp} : ∀ {es : List Expr} {Q R : Bool → Prop}, (∀ d, Q d → R d) → wAll G op es Q → wAll G op es R
  | [], _, _, k, h => k _ h
  | e :: r, Q, R, k, h => by
    unfold wAll at h ⊢
    refine hG _ _ _ (fun t h => ?_) h
    cases op <;> cases t
    · exact k _ h
    · exact wAll_mono (es := r) k h
    · exact wAll_mono (es := r) k h
    · exact k _ h
include hF in
theorem wPart_mono {fm : D → Option Str} {e : Expr} {Q R : Str → Prop} (k : ∀ d, Q d → R d) (h : wPart fm F e Q) : wPart fm F e R := by
  unfold wPart at h ⊢
  split at h
  · split at h
    · rename_i hs
      exact k _ h
    · exact h.elim
  · split at h
    · rename_i hs
      exact hF _ _ _ (fun d h => h.mono k) h
    · exact h.elim
  · exact h.elim
include hF in
theorem wParts_mono {fm : D → Option Str} : ∀ {es : List Expr} {Q R : Str → Prop}, (∀ d, Q d → R d) → wParts fm F es Q → wParts fm F es R
  | [], _, _, k, h => k _ h
  | e :: r, Q, R, k, h => by
    unfold wParts at h ⊢
    exact wPart_mono hF (fun x h => wParts_mono (fun y h => ⟨h.1, k _ h.2⟩) h) h
include hF in
theorem wRcv_mono {e : Expr} {Q R : Rcv → Prop} (k : ∀ d, Q d → R d) (h : wRcv c F e Q) : wRcv c F e R := by
  unfold wRcv at h ⊢
  split at h
  · rename_i x C fs y h1 h2
    split at h
    · rename_i hxy
      rw [if_pos hxy]
      split at h
      · rename_i hs
        exact k _ h
      · exact h.elim
    · rename_i hxy
      rw [if_neg hxy]
      exact hF _ _ _ (fun d h => k _ h) h
  · rename_i hne
    exact hF _ _ _ (fun d h => k _ h) h
include hF hG in
theorem wEStep_mono : ∀ e Q R, (∀ d, Q d → R d) → wEStep c F G e Q → wEStep c F G e R := by
  intro e Q R k h
  unfold wEStep at h
  split at h
  · simp only [wEStep]
    split at h
    · rename_i hd; exact k _ h
    · exact h.elim
  · simp only [wEStep]
    split at h
    · rename_i hd; exact k _ h
    · exact h.elim
  · exact wBool_mono hF k h
  · exact hF _ _ _ (fun a h => hF _ _ _ (fun b h => h.mono k) h) h
  · split at h
    · exact hF _ _ _ (fun a h => h.mono fun b h => k _ h) h
    · exact h.elim
  · refine hG _ _ _ (fun v h => ?_) h
    cases v <;> exact hF _ _ _ k h
  · simp only [wEStep]
    split at h
    · split at h
      · rename_i hp; exact hF _ _ _ (fun a h => hF _ _ _ (fun b h => h.mono k) h) h
      · exact h.elim
    · exact h.elim
  · refine wEs_mono hF (fun ds h => ?_) h
    split at h
    · rename_i hd; exact k _ h
    · exact h.elim
  · refine wEs_mono hF (fun ds h => ?_) h
    split at h
    · rename_i hd; exact k _ h
    · exact h.elim
  · simp only [wEStep]
    split at h
    · rename_i hp; exact wRcv_mono hF (fun r h => h.mono k) h
    · exact h.elim
  · simp only [wEStep]
    split at h
    · exact h.elim
    · rename_i hp; exact hF _ _ _ (fun a h => hF _ _ _ (fun b h => h.mono k) h) h
  · simp only [wEStep]
    split at h
    · split at h
      · rename_i hp; exact wRcv_mono hF (fun r h => wEs_mono hF (fun ds h => wKs_mono hF (fun ks h => h.mono k) h) h) h
      · exact h.elim
    · split at h
      · rename_i hgen
        try simp only [hgen]
        split at h
        · rename_i hp; exact hF _ _ _ (fun a h => h.mono k) h
        · exact h.elim
      · rename_i hgen
        try simp only [hgen]
        split at h
        · rename_i hp; exact hF _ _ _ (fun a h => wEs_mono hF (fun ds h => wKs_mono hF (fun ks h => h.mono k) h) h) h
        · exact h.elim
    · exact h.elim
  · simp only [wEStep]
    split at h
    · exact wParts_mono hF (fun y h => k _ h) h
    · exact h.elim
  · simp only [wEStep]
    split at h
    · rename_i htx
      try simp only [htx]
      split at h
      · rename_i hp; exact hF _ _ _ (fun a h => h.mono k) h
      · exact h.elim
    · exact h.elim
  · exact h.elim
include hF hG in
theorem wTStep_mono : ∀ e Q R, (∀ d, Q d → R d) → wTStep c F G e Q → wTStep c F G e R := by
  intro e Q R k h
  unfold wTStep at h
  split at h
  · exact hG _ _ _ (fun t h => k _ h) h
  · exact wAll_mono hG k h
  · refine hG _ _ _ (fun v h => ?_) h
    cases v <;> exact hG _ _ _ k h
  · simp only [wTStep]
    split at h
    · rename_i hp; exact hF _ _ _ (fun a h => hF _ _ _ (fun b h => h.mono fun d h => h.mono k) h) h
    · exact h.elim
  · exact h.elim
  · rename_i h1 h2 h3 h4 h5
    have e : wTStep c F G e R = F e fun d => W (c.ops.tru d) R := by
      cases e <;> first | rfl | exact (h5 _ _ _ _ rfl).elim | exact (h2 _ _ _ rfl).elim | exact (h3 _ _ _ _ rfl).elim | skip
      rename_i op x pos
      cases op <;> first | rfl | exact (h1 _ _ rfl).elim
    rw [e]
    exact hF _ _ _ (fun d h => h.mono k) h
end
theorem wBoth_mono (c : PC) : ∀ n, (∀ e Q R, (∀ d, Q d → R d) → (wBoth c n).1 e Q → (wBoth c n).1 e R) ∧ (∀ e Q R, (∀ d, Q d → R d) → (wBoth c n).2 e Q → (wBoth c n).2 e R)
  | 0 => ⟨fun _ _ _ _ h => h.elim, fun _ _ _ _ h => h.elim⟩
  | n + 1 => ⟨wEStep_mono (wBoth_mono c n).1 (wBoth_mono c n).2, wTStep_mono (wBoth_mono c n).1 (wBoth_mono c n).2⟩
/-- an expression whose value is known -/
theorem wE_cut {c : PC} {n : Nat} {e : Expr} {d : D} {Q : D → Prop} (h : wE c n e (· = d)) (q : Q d) : wE c n e Q := (wBoth_mono c n).1 e _ _ (fun x (hx : x = d) => by subst hx; exact q) h
theorem wT_cut {c : PC} {n : Nat} {e : Expr} {d : Bool} {Q : Bool → Prop} (h : wT c n e (· = d)) (q : Q d) : wT c n e Q := (wBoth_mono c n).2 e _ _ (fun x (hx : x = d) => by subst hx; exact q) h
end Mine
end
section
open PySem PySem.W PyProof.Rows
set_option maxRecDepth 100000
namespace Mine

/-- what comes behind a branch -/
noncomputable def andThen (c : FC) (n : Nat) (r : List Stmt) (Q : QX) : QX := fun fl ρ' => match fl with
  | .next => wX c n ρ' r Q
  | .brk => Q .brk ρ'
  | .cont => Q .cont ρ'
  | .ret d => Q (.ret d) ρ'
section
variable {c : FC} {n m : Nat} {ρ : PE} {r : List Stmt} {Q : QX}
theorem x_nil (q : Q .next ρ) : wX c (n + 1) ρ [] Q := q
theorem x_done (q : wX c n ρ r Q) : wX c (m + 1) ρ [] (andThen c n r Q) := q
theorem x_asg {x : Str} {p pos : Pos} {e : Expr} {d : D} (hc : (plainExpr e && !isOwnName c x && storable c ρ x) = true) (h : wE (c.pc ρ) c.fuel e (· = d)) (k : wX c n (setv ρ x d) r Q) : wX c (n + 1) ρ (.Assign [.Name x p] e pos :: r) Q := by
  simp only [Bool.and_eq_true, Bool.not_eq_true'] at hc
  show wXStep c (wX c n) ρ (.Assign [.Name x p] e pos) (andThen c n r Q)
  simp only [wXStep, hc.1.1, hc.1.2, hc.2]
  exact wE_cut h k
theorem x_tup {ts : List Expr} {kd : Nat} {p pos : Pos} {e : Expr} {d : D} {ρ' : PE} (hc : (plainExpr e && notTuple e) = true) (h : wE (c.pc ρ) c.fuel e (· = d)) (hb : bindT c ρ (.Tuple ts kd p) d = some ρ') (k : wX c n ρ' r Q) : wX c (n + 1) ρ (.Assign [.Tuple ts kd p] e pos :: r) Q := by
  show wXStep c (wX c n) ρ (.Assign [.Tuple ts kd p] e pos) (andThen c n r Q)
  simp only [wXStep, hc]
  exact wE_cut h ⟨_, hb, k⟩
theorem x_self {y a : Str} {p ap pos : Pos} {e : Expr} {d : D} {C : Addr} {fs : List (Str × D)} {x : Str} (how : ρ.own = .inst x C fs) (hc : (plainExpr e && (x == y && isLocal c y && !(y == ("__debug__" : Str)) && c.setOk C a && decide (fs.length ≤ 50))) = true) (h : wE (c.pc ρ) c.fuel e (· = d)) (k : wX c n { ρ with own := .inst x C (putF a d fs) } r Q) :
    wX c (n + 1) ρ (.Assign [.Attribute (.Name y p) a ap] e pos :: r) Q := by
  rw [Bool.and_eq_true] at hc
  show wXStep c (wX c n) ρ (.Assign [.Attribute (.Name y p) a ap] e pos) (andThen c n r Q)
  simp only [wXStep, hc.1, how]
  refine wE_cut h ?_
  rw [hc.2]
  exact k
theorem x_if {t : Expr} {b o : List Stmt} {pos : Pos} (v : Bool) (h : wT (c.pc ρ) c.fuel t (· = v)) (k : wX c n ρ (bif v then b else o) (andThen c n r Q)) : wX c (n + 1) ρ (.If t b o pos :: r) Q := by
  show wT (c.pc ρ) c.fuel t _
  refine wT_cut h ?_
  cases v
  · exact k
  · exact k
theorem x_assert {t : Expr} {mm : Option Expr} {pos : Pos} (h : wT (c.pc ρ) c.fuel t (· = true)) (k : wX c n ρ r Q) : wX c (n + 1) ρ (.Assert t mm pos :: r) Q := wT_cut h k
theorem x_ret {e : Expr} {pos : Pos} {d : D} (h : wE (c.pc (freeze ρ)) c.fuel e (· = d)) (q : Q (.ret d) ρ) : wX c (n + 1) ρ (.Return (some e) pos :: r) Q := wE_cut h q
theorem x_expN {v : Expr} {p : Pos} {d : D} (ha : appOf v = none) (hp : plainExpr v = true) (h : wE (c.pc ρ) c.fuel v (· = d)) (k : wX c n ρ r Q) : wX c (n + 1) ρ (.Expr v p :: r) Q := by
  show wXStep c (wX c n) ρ (.Expr v p) (andThen c n r Q)
  simp only [wXStep, ha, hp]
  exact wE_cut h k
theorem x_expk {v : Expr} {a : Str} {apos pos p : Pos} {es : List Expr} {kw : Keyword} {kws : List Keyword} {d : D} (h : wE (c.pc ρ) c.fuel (.Call (.Attribute v a apos) es (kw :: kws) pos) (· = d)) (k : wX c n ρ r Q) : wX c (n + 1) ρ (.Expr (.Call (.Attribute v a apos) es (kw :: kws) pos) p :: r) Q :=
  x_expN (by rcases es with _ | ⟨e1, _ | ⟨e2, es⟩⟩ <;> cases v <;> rfl) rfl h k
theorem x_exp2 {v : Expr} {a : Str} {apos pos p : Pos} {e₁ e₂ : Expr} {es : List Expr} {d : D} (h : wE (c.pc ρ) c.fuel (.Call (.Attribute v a apos) (e₁ :: e₂ :: es) [] pos) (· = d)) (k : wX c n ρ r Q) : wX c (n + 1) ρ (.Expr (.Call (.Attribute v a apos) (e₁ :: e₂ :: es) [] pos) p :: r) Q :=
  x_expN (by cases v <;> rfl) rfl h k
theorem x_own {x : Str} {p pos : Pos} {e : Expr} {l : List D} (hc : (plainExpr e && isOwnName c x && isLocal c x) = true) (how : ρ.own = .none) (h : wFresh c ρ e (· = l)) (k : wX c n ⟨ρ.vars.filter (·.1 != x), .lst x l⟩ r Q) : wX c (n + 1) ρ (.Assign [.Name x p] e pos :: r) Q := by
  simp only [Bool.and_eq_true] at hc
  show wXStep c (wX c n) ρ (.Assign [.Name x p] e pos) (andThen c n r Q)
  simp only [wXStep, hc.1.1, hc.1.2, how]
  have mono : ∀ {Q R : List D → Prop}, (∀ d, Q d → R d) → wFresh c ρ e Q → wFresh c ρ e R := by
    intro Q R k h
    unfold wFresh at h ⊢
    split at h
    · refine wEs_mono (fun e Q R => (wBoth_mono (c.pc ρ) c.fuel).1 e Q R) (fun ds h => ?_) h
      split at h
      · exact k _ h
      · exact h.elim
    · exact (wBoth_mono (c.pc ρ) c.fuel).1 _ _ _ (fun a h => (wBoth_mono (c.pc ρ) c.fuel).1 _ _ _ (fun b h => h.mono k) h) h
    · exact h.elim
  refine mono (fun d (hd : d = l) => ?_) h
  subst hd
  rw [hc.2]
  exact k
theorem x_app {y a : Str} {p apos pos pe : Pos} {e : Expr} {d : D} {x : Str} {l : List D} (how : ρ.own = .lst x l) (hxy : x = y) (hc : (a == ("append" : Str) && isLocal c y && !(y == ("__debug__" : Str)) && plainExpr e && (apos.endLine == pos.line) && decide (l.length ≤ 900)) = true) (h : wE (c.pc ρ) c.fuel e (· = d)) (k : wX c n { ρ with own := .lst x (l ++ [d]) } r Q) :
    wX c (n + 1) ρ (.Expr (.Call (.Attribute (.Name y p) a apos) [e] [] pos) pe :: r) Q := by
  show wXStep c (wX c n) ρ (.Expr (.Call (.Attribute (.Name y p) a apos) [e] [] pos) pe) (andThen c n r Q)
  simp only [wXStep, appOf, how, if_pos hxy, hc]
  exact wE_cut h k
/-- a loop: what it goes over, then turn by turn -/
theorem x_for {x : Str} {xp pos : Pos} {it : Expr} {body : List Stmt} {l : List D} (hc : (plainExpr it && notCall it) = true) (h : wSeq c ρ it (· = l)) (k : wLoop c (.Name x xp) (fun ρ Q => wX c n ρ body Q) l ρ (andThen c n r Q)) : wX c (n + 1) ρ (.For (.Name x xp) it body [] pos :: r) Q := by
  rw [Bool.and_eq_true] at hc
  show wXStep c (wX c n) ρ (.For (.Name x xp) it body [] pos) (andThen c n r Q)
  simp only [wXStep, hc.1]
  have hi : wIter c ρ it = fun Q => wSeq c ρ it Q := by
    funext Q
    have h2 := hc.2
    cases it <;> first | rfl | cases h2
  rw [hi]
  unfold wSeq at h ⊢
  refine (wBoth_mono (c.pc ρ) c.fuel).1 _ _ _ (fun d h => ?_) h
  split at h <;> first | exact h.elim | (have h : _ = l := h; subst h; exact k)
theorem x_range {x f : Str} {xp fp cp pos : Pos} {e : Expr} {body : List Stmt} {i : Nat} (hc : (globIs c f (.type "range") && plainExpr e) = true) (hi : i ≤ 100) (h : wE (c.pc ρ) c.fuel e (· = .int i)) (k : wLoop c (.Name x xp) (fun ρ Q => wX c n ρ body Q) (rangeD 0 i) ρ (andThen c n r Q)) :
    wX c (n + 1) ρ (.For (.Name x xp) (.Call (.Name f fp) [e] [] cp) body [] pos :: r) Q := by
  show wXStep c (wX c n) ρ (.For (.Name x xp) (.Call (.Name f fp) [e] [] cp) body [] pos) (andThen c n r Q)
  simp only [wXStep, wIter, hc, show plainExpr (.Call (.Name f fp) [e] [] cp) = true from rfl]
  exact wE_cut h ⟨by omega, by omega, by rw [Int.toNat_natCast]; exact k⟩
theorem l_nil {tgt : Expr} {body : PE → QX → Prop} (q : Q .next ρ) : wLoop c tgt body [] ρ Q := q
end
end Mine
end
section
open PySem PySem.W PyProof.Rows
set_option maxRecDepth 100000
namespace Mine
section
variable {c : PC} {n : Nat} {pos : Pos} {Q : D → Prop} {R : Bool → Prop}
theorem e_one {op : BoolOp} {e : Expr} (h : wE c n e Q) : wE c (n + 1) (.BoolOp op [e] pos) Q := h
theorem e_and {e e' : Expr} {r : List Expr} {d : D} (h : wE c n e (· = d)) (t : c.ops.tru d = some true) (k : wE c (n + 1) (.BoolOp .And (e' :: r) pos) Q) : wE c (n + 1) (.BoolOp .And (e :: e' :: r) pos) Q := by
  show wE c n e _
  exact wE_cut h ⟨_, t, k⟩
theorem e_andF {e e' : Expr} {r : List Expr} {d : D} (h : wE c n e (· = d)) (t : c.ops.tru d = some false) (k : Q d) : wE c (n + 1) (.BoolOp .And (e :: e' :: r) pos) Q := by
  show wE c n e _
  exact wE_cut h ⟨_, t, k⟩
theorem e_or {e e' : Expr} {r : List Expr} {d : D} (h : wE c n e (· = d)) (t : c.ops.tru d = some false) (k : wE c (n + 1) (.BoolOp .Or (e' :: r) pos) Q) : wE c (n + 1) (.BoolOp .Or (e :: e' :: r) pos) Q := by
  show wE c n e _
  exact wE_cut h ⟨_, t, k⟩
theorem e_orT {e e' : Expr} {r : List Expr} {d : D} (h : wE c n e (· = d)) (t : c.ops.tru d = some true) (k : Q d) : wE c (n + 1) (.BoolOp .Or (e :: e' :: r) pos) Q := by
  show wE c n e _
  exact wE_cut h ⟨_, t, k⟩
theorem e_andB {e e' : Expr} {r : List Expr} {t : Bool} (tr : ∀ b, c.ops.tru (.bool b) = some b) (h : wE c n e (· = .bool t)) (k1 : t = true → wE c (n + 1) (.BoolOp .And (e' :: r) pos) Q) (k0 : t = false → Q (.bool false)) : wE c (n + 1) (.BoolOp .And (e :: e' :: r) pos) Q := by
  cases t
  · exact e_andF h (tr false) (k0 rfl)
  · exact e_and h (tr true) (k1 rfl)
theorem e_cmp {op : CmpOp} {l r : Expr} {a b d : D} (hp : plainExpr r = true) (h1 : wE c n l (· = a)) (h2 : wE c n r (· = b)) (t : c.ops.cmp op a b = some d) (k : Q d) : wE c (n + 1) (.Compare l [op] [r] pos) Q := by
  show (match plainExpr r with
    | true => wE c n l fun a => wE c n r fun b => W (c.ops.cmp op a b) Q
    | false => False)
  rw [hp]
  exact wE_cut h1 (wE_cut h2 ⟨_, t, k⟩)
theorem e_not {e : Expr} {a : D} {t : Bool} (h : wE c n e (· = a)) (ht : c.ops.tru a = some t) (k : Q (.bool (!t))) : wE c (n + 1) (.UnaryOp .Not e pos) Q := by
  show wE c n e _
  exact wE_cut h ⟨_, ht, k⟩
theorem e_bin {op : Operator} {l r : Expr} {a b d : D} (h1 : wE c n l (· = a)) (h2 : wE c n r (· = b)) (t : c.ops.bin op a b = some d) (k : Q d) : wE c (n + 1) (.BinOp l op r pos) Q := by
  show wE c n l _
  exact wE_cut h1 (wE_cut h2 ⟨_, t, k⟩)
theorem e_if {e b o : Expr} (v : Bool) (h : wT c n e (· = v)) (k : wE c n (bif v then b else o) Q) : wE c (n + 1) (.IfExp e b o pos) Q := by
  show wT c n e _
  refine wT_cut h ?_
  cases v <;> exact k
theorem t_not {e : Expr} {t : Bool} (h : wT c n e (· = t)) (k : R (!t)) : wT c (n + 1) (.UnaryOp .Not e pos) R := by
  show wT c n e _
  exact wT_cut h k
theorem t_nil {op : BoolOp} (k : R (op == .And)) : wT c (n + 1) (.BoolOp op [] pos) R := k
theorem t_and {e : Expr} {r : List Expr} (t : Bool) (h : wT c n e (· = t)) (k : if t then wT c (n + 1) (.BoolOp .And r pos) R else R false) : wT c (n + 1) (.BoolOp .And (e :: r) pos) R := by
  show wT c n e _
  refine wT_cut h ?_
  cases t
  · exact k
  · exact k
theorem t_or {e : Expr} {r : List Expr} (t : Bool) (h : wT c n e (· = t)) (k : if t then R true else wT c (n + 1) (.BoolOp .Or r pos) R) : wT c (n + 1) (.BoolOp .Or (e :: r) pos) R := by
  show wT c n e _
  refine wT_cut h ?_
  cases t
  · exact k
  · exact k
theorem t_cmp {op : CmpOp} {l r : Expr} {a b d : D} {t : Bool} (hp : plainExpr r = true) (h1 : wE c n l (· = a)) (h2 : wE c n r (· = b)) (ht : c.ops.cmp op a b = some d) (hb : c.ops.tru d = some t) (k : R t) : wT c (n + 1) (.Compare l [op] [r] pos) R := by
  show (match plainExpr r with
    | true => wE c n l fun a => wE c n r fun b => W (c.ops.cmp op a b) fun d => W (c.ops.tru d) R
    | false => False)
  rw [hp]
  exact wE_cut h1 (wE_cut h2 ⟨_, ht, _, hb, k⟩)
end
end Mine
end
section
open PySem PySem.W PyProof.Rows
set_option maxRecDepth 1000000
set_option maxHeartbeats 1000000
namespace Mine

noncomputable def notTabB (p : Addr × Obj) : Bool := match p.2.cls, p.2.data with
  | .none, .fields _ => false
  | _, _ => true
noncomputable def KZ (P : Params) : Frag := hz.heap_651 P
noncomputable def KK (P : Params) : Frag := (KZ P).filter notTabB
noncomputable def OWN (a : Addr) : Option Str := if a = 756 then some "row" else if a = 770 then some "others" else none
noncomputable def OO (P : Params) (n : Nat) : Ops := opsAt (KK P) OWN (theX (KK P) OWN) n

/-- names that the functions ask for -/
noncomputable def GT : List (Str × Value) := [("Version", .ref 457), ("Range", .ref 700), ("NumericIdentifier", .ref 236), ("AlphaIdentifier", .ref 272), ("MaxIdentifier", .ref 110), ("_has_leading_zero", .ref 65),
  ("_law_signs", .ref 709), ("_law_rules", .ref 716), ("_law_pres", .ref 723), ("_law_builds", .ref 730), ("_law_mix", .ref 737), ("_law_text", .ref 742), ("_law_made", .ref 749), ("_law_key", .ref 756), ("_law_holds", .ref 763), ("_law_draw", .ref 770), ("_law_case", .ref 777),
  ("int", .type "int"), ("tuple", .type "tuple"), ("isinstance", .builtin "isinstance"), ("range", .type "range"), ("str", .type "str"), ("abs", .builtin "abs"), ("type", .type "type"), ("list", .type "list"), ("iter", .builtin "iter"), ("NotImplemented", .notImplemented)]
noncomputable def gl (x : Str) : Option Value := GT.lookup x
noncomputable def ST : List (Addr × Str) := [(457, "major"), (457, "minor"), (457, "patch"), (457, "prerelease"), (457, "build"), (457, "partial"), (457, "_cmp_precedence_key"), (457, "_sort_precedence_key"), (700, "operator"), (700, "target"), (700, "prerelease_policy"), (700, "build_policy"), (236, "value"), (272, "value")]
noncomputable def stT (C : Addr) (x : Str) : Bool := ST.any fun p => p.1 == C && p.2 == x
theorem lookup_all2 {α β : Type} [BEq α] [LawfulBEq α] {f : α → Option β} : ∀ {l : List (α × β)}, (∀ p ∈ l, f p.1 = some p.2) → ∀ {x v}, l.lookup x = some v → f x = some v
  | [], _, x, v, e => by cases e
  | (y, u) :: l, h, x, v, e => by
    rw [List.lookup_cons] at e
    cases hb : x == y with
    | true =>
      rw [hb] at e
      cases e
      rw [eq_of_beq hb]
      exact h _ (.head _)
    | false =>
      rw [hb] at e
      exact lookup_all2 (fun p hp => h p (.tail _ hp)) e
variable (P : Params)
theorem gl_ok : ∀ x v, gl x = some v → globIn (KK P) x = some v := fun x v e => lookup_all2 (f := globIn (KK P)) (by
  unfold GT
  simp only [List.forall_mem_cons, List.not_mem_nil, false_implies, implies_true, and_true]
  refine ⟨?_, ?_, ?_, ?_, ?_, ?_, ?_, ?_, ?_, ?_, ?_, ?_, ?_, ?_, ?_, ?_, ?_, ?_, ?_, ?_, ?_, ?_, ?_, ?_, ?_, ?_, ?_⟩ <;> kernel_rfl) e
theorem st_ok : ∀ C x, stT C x = true → settable (KK P) C x = true := by
  intro C x h
  unfold stT at h
  obtain ⟨p, hp, h⟩ := List.any_eq_true.mp h
  rw [Bool.and_eq_true, beq_iff_eq, beq_iff_eq] at h
  obtain ⟨rfl, rfl⟩ := h
  have : ∀ p ∈ ST, settable (KK P) p.1 p.2 = true := by
    unfold ST
    simp only [List.forall_mem_cons, List.not_mem_nil, false_implies, implies_true, and_true]
    refine ⟨?_, ?_, ?_, ?_, ?_, ?_, ?_, ?_, ?_, ?_, ?_, ?_, ?_, ?_⟩ <;> kernel_rfl
  exact this p hp

/-- a function's data -/
noncomputable def fdIn (o : Obj) : FuncData := match o.data with
  | .func fd => fd
  | _ => default
noncomputable def bodyOf (fd : FuncData) : List Stmt := match fd.body with
  | .stmts b => b
  | _ => []
end Mine
end
section
open PySem PySem.W PyProof.Rows
set_option maxRecDepth 1000000
set_option maxHeartbeats 1000000
namespace Mine
variable (P : Params)

/-- a function of the fixed part -/
structure FnOk (f : Addr) (fd : FuncData) : Prop where
  at_ : fnAt (KK P) f = some fd
  good : fnGood (KK P) fd = true
  body : fd.body = .stmts (bodyOf fd)
noncomputable abbrev ctx (ops : Ops) (fd : FuncData) (f : Addr) : FC := ⟨fd.scope, gl, ops, OWN f, stT, 40⟩
noncomputable abbrev RF (ops : Ops) (f : Addr) (as : List D) (ks : List (Str × D) := []) : Option D := runF (KK P) OWN (settable (KK P)) ops f as ks
abbrev endQ (r : D) : QX := fun fl _ => match fl with
  | .ret d => d = r
  | .next => .none = r
  | _ => False
variable {P}
theorem run_w {ops : Ops} {f : Addr} {fd : FuncData} (F : FnOk P f fd) {as : List D} {ks : List (Str × D)} {dd : List D} {b : List (Str × D)} {r : D} (h4 : dfl (KK P) fd.defaults = some dd) (h6 : bindL (fd.params.args.map (·.arg)) as ks dd = some b) (h5 : (b.all fun y => fd.scope.names.lookup y.1 == some .local) = true)
    (h : wX (ctx ops fd f) 60 ⟨b.reverse, .none⟩ (bodyOf fd) (endQ r)) : RF P ops f as ks = some r :=
  runF_w (gl_ok P) (st_ok P) F.at_ F.good F.body h4 h6 h5 h

abbrev endI (C : Addr) (d : D) : QX := fun fl ρ => match fl, ρ.own with
  | .next, .inst _ C' fs => C' = C ∧ .obj C fs = d
  | .ret .none, .inst _ C' fs => C' = C ∧ .obj C fs = d
  | _, _ => False
theorem init_w {ops : Ops} {C f : Addr} {fd : FuncData} (F : FnOk P f fd) {as : List D} {ks : List (Str × D)} {dd : List D} {b : List (Str × D)} {d : D} {p0 : Arg} {prest : List Arg} (hm : makesIn (KK P) C = true) (hi : findIn (KK P) (.ref C) "__init__" = some (some (.ref f))) (ht : typeIn (KK P) (.ref f) = some (.type "function"))
    (h4 : dfl (KK P) fd.defaults = some dd) (hp : fd.params.args = p0 :: prest) (h6 : bindL (fd.params.args.map (·.arg)) (.glob .none :: as) ks dd = some b)
    (h5 : ((b.all fun y => fd.scope.names.lookup y.1 == some .local) && selfBound (b.reverse.lookup p0.arg) && as.all notGlob && ks.all (fun y => notGlob y.2) && dd.all notGlob && fd.scope.names.lookup p0.arg == some .local && b.all (fun y => y.1 == p0.arg || notGlob y.2)) = true)
    (h : wX (ctx ops fd f) 60 ⟨(b.filter (·.1 != p0.arg)).reverse, .inst p0.arg C []⟩ (bodyOf fd) (endI C d)) : runInit (KK P) OWN ops C as ks = some d := by
  obtain ⟨fl, ρ', e0, h⟩ := wX_ok (g' := globIn (KK P)) (s' := settable (KK P)) (gl_ok P) (st_ok P) _ h
  have e : exs ⟨fd.scope, globIn (KK P), ops, OWN f, settable (KK P), 40⟩ 60 ⟨(b.filter (·.1 != p0.arg)).reverse, .inst p0.arg C []⟩ (bodyOf fd) = some (fl, ρ') := e0
  unfold runInit
  rw [if_pos hm, hi]
  dsimp only
  rw [if_pos ht, F.at_]
  dsimp only
  rw [if_pos F.good, F.body, h4, hp]
  dsimp only
  rw [← hp, h6]
  dsimp only
  rw [if_pos h5, e]
  unfold endI at h
  split at h
  · rename_i hfl
    obtain ⟨rfl, rfl⟩ := h
    dsimp only
    simp only [hfl, if_true]
  · rename_i hfl
    obtain ⟨rfl, rfl⟩ := h
    dsimp only
    simp only [hfl, if_true]
  · exact h.elim

/-- calls -/
theorem call_fn2 {n : Nat} {f : Addr} {as : List D} {ks : List (Str × D)} {d : D} (hf : (fnAt (KK P) f).isSome = true) (hx : callX (KK P) (OO P n) (.glob (.ref f)) as ks = none) (h : RF P (OO P n) f as ks = some d) : (OO P (n + 1)).call (.glob (.ref f)) as ks = some d := by
  show (match callX (KK P) (OO P n) (.glob (.ref f)) as ks with
    | some d => some d
    | none => if (fnAt (KK P) f).isSome = true then RF P (OO P n) f as ks else runInit (KK P) OWN (OO P n) f as ks) = some d
  rw [hx, if_pos hf]; exact h
theorem call_cls {n : Nat} {C : Addr} {as : List D} {ks : List (Str × D)} {d : D} (hf : (fnAt (KK P) C).isSome = false) (hx : callX (KK P) (OO P n) (.glob (.ref C)) as ks = none) (h : runInit (KK P) OWN (OO P n) C as ks = some d) : (OO P (n + 1)).call (.glob (.ref C)) as ks = some d := by
  show (match callX (KK P) (OO P n) (.glob (.ref C)) as ks with
    | some d => some d
    | none => if (fnAt (KK P) C).isSome = true then RF P (OO P n) C as ks else runInit (KK P) OWN (OO P n) C as ks) = some d
  rw [hx, hf]; exact h
theorem call_blt {n : Nat} {v : Value} {as : List D} {d : D} (hv : (match v with | .ref _ => false | _ => true) = true) (hx : callX (KK P) (OO P n) (.glob v) as [] = none) (h : callB (KK P) v as = some d) : (OO P (n + 1)).call (.glob v) as [] = some d := by
  show callU (KK P) OWN (theX (KK P) OWN) (OO P n) (.glob v) as [] = some d
  unfold callU
  have hx' : (theX (KK P) OWN).call (OO P n) (.glob v) as [] = none := hx
  rw [hx']
  cases v <;> first | exact h | cases hv
theorem meth_obj {n : Nat} {C f : Addr} {fs : List (Str × D)} {x : Str} {as : List D} {ks : List (Str × D)} {d : D} (hi : instM (KK P) C fs x = some (f, true)) (h : RF P (OO P n) f (.obj C fs :: as) ks = some d) : (OO P (n + 1)).meth (.dat (.obj C fs)) x as ks = some d := by
  show (match instM (KK P) C fs x with
      | some (f, true) => RF P (OO P n) f (.obj C fs :: as) ks
      | some (f, false) => RF P (OO P n) f (.glob (.ref C) :: as) ks
      | none => none) = some d
  rw [hi]; exact h
theorem meth_objc {n : Nat} {C f : Addr} {fs : List (Str × D)} {x : Str} {as : List D} {ks : List (Str × D)} {d : D} (hi : instM (KK P) C fs x = some (f, false)) (h : RF P (OO P n) f (.glob (.ref C) :: as) ks = some d) : (OO P (n + 1)).meth (.dat (.obj C fs)) x as ks = some d := by
  show (match instM (KK P) C fs x with
      | some (f, true) => RF P (OO P n) f (.obj C fs :: as) ks
      | some (f, false) => RF P (OO P n) f (.glob (.ref C) :: as) ks
      | none => none) = some d
  rw [hi]; exact h
theorem meth_cls {n : Nat} {C f : Addr} {x : Str} {as : List D} {ks : List (Str × D)} {d : D} (hx : methX (KK P) OWN (OO P n) (.dat (.glob (.ref C))) x as ks = none) (hi : clsM (KK P) C x = some (f, true)) (h : RF P (OO P n) f (.glob (.ref C) :: as) ks = some d) : (OO P (n + 1)).meth (.dat (.glob (.ref C))) x as ks = some d := by
  show (match methX (KK P) OWN (OO P n) (.dat (.glob (.ref C))) x as ks with
    | some d => some d
    | none => match clsM (KK P) C x with
      | some (f, true) => RF P (OO P n) f (.glob (.ref C) :: as) ks
      | some (f, false) => RF P (OO P n) f as ks
      | none => none) = some d
  rw [hx, hi]; exact h
theorem meth_selfc {n : Nat} {C f : Addr} {fs : List (Str × D)} {x : Str} {as : List D} {ks : List (Str × D)} {d : D} (hi : instM (KK P) C fs x = some (f, false)) (h : RF P (OO P n) f (.glob (.ref C) :: as) ks = some d) : (OO P (n + 1)).meth (.self C fs) x as ks = some d := by
  show (match selfX (KK P) OWN (OO P n) C fs x as ks with
    | some d => some d
    | none => match instM (KK P) C fs x with
      | some (f, false) => RF P (OO P n) f (.glob (.ref C) :: as) ks
      | _ => none) = some d
  have : selfX (KK P) OWN (OO P n) C fs x as ks = none := by
    unfold selfX
    rw [hi]
  rw [this, hi]; exact h
theorem meth_self {n : Nat} {C f : Addr} {fs : List (Str × D)} {x : Str} {as : List D} {ks : List (Str × D)} {d : D} (hi : instM (KK P) C fs x = some (f, true)) (h : RF P (OO P n) f (.obj C fs :: as) ks = some d) (hc : clean C (fs.map (·.1)) d = true) : (OO P (n + 1)).meth (.self C fs) x as ks = some d := by
  show (match selfX (KK P) OWN (OO P n) C fs x as ks with
    | some d => some d
    | none => _) = some d
  have : selfX (KK P) OWN (OO P n) C fs x as ks = some d := by
    unfold selfX
    rw [hi]
    dsimp only
    have h' : runF (KK P) OWN (settable (KK P)) (OO P n) f (.obj C fs :: as) ks = some d := h
    rw [h', Option.bind_some, if_pos hc]
  rw [this]
theorem bin_of {n : Nat} {op : Operator} {a b d : D} (h : binD op a b = some d) : (OO P (n + 1)).bin op a b = some d := by
  show (match binD op a b with | some d => some d | none => _) = _
  rw [h]
theorem mul' {n : Nat} {a b : Int} (h : mulFits a b = true) : (OO P (n+1)).bin .Mult (.int a) (.int b) = some (.int (a * b)) := bin_of (if_pos h)
end Mine
end
section
open PySem PySem.W PyProof.Rows
set_option maxRecDepth 1000000
set_option maxHeartbeats 1000000
namespace Mine
variable (P : Params)
noncomputable abbrev F65 : FuncData := fdIn (hz.zo_76 P)
theorem ok65 : FnOk P 65 (F65 P) := ⟨by kernel_rfl, by kernel_rfl, by kernel_rfl⟩
noncomputable abbrev F292 : FuncData := fdIn (hz.zo_201 P)
theorem ok292 : FnOk P 292 (F292 P) := ⟨by kernel_rfl, by kernel_rfl, by kernel_rfl⟩
noncomputable abbrev F351 : FuncData := fdIn (hz.zo_260 P)
theorem ok351 : FnOk P 351 (F351 P) := ⟨by kernel_rfl, by kernel_rfl, by kernel_rfl⟩
noncomputable abbrev F300 : FuncData := fdIn (hz.zo_209 P)
theorem ok300 : FnOk P 300 (F300 P) := ⟨by kernel_rfl, by kernel_rfl, by kernel_rfl⟩
noncomputable abbrev F362 : FuncData := fdIn (hz.zo_271 P)
theorem ok362 : FnOk P 362 (F362 P) := ⟨by kernel_rfl, by kernel_rfl, by kernel_rfl⟩
noncomputable abbrev F372 : FuncData := fdIn (hz.zo_281 P)
theorem ok372 : FnOk P 372 (F372 P) := ⟨by kernel_rfl, by kernel_rfl, by kernel_rfl⟩
noncomputable abbrev F332 : FuncData := fdIn (hz.zo_241 P)
theorem ok332 : FnOk P 332 (F332 P) := ⟨by kernel_rfl, by kernel_rfl, by kernel_rfl⟩
noncomputable abbrev F382 : FuncData := fdIn (hz.zo_291 P)
theorem ok382 : FnOk P 382 (F382 P) := ⟨by kernel_rfl, by kernel_rfl, by kernel_rfl⟩
noncomputable abbrev F389 : FuncData := fdIn (hz.zo_298 P)
theorem ok389 : FnOk P 389 (F389 P) := ⟨by kernel_rfl, by kernel_rfl, by kernel_rfl⟩
noncomputable abbrev F397 : FuncData := fdIn (hz.zo_306 P)
theorem ok397 : FnOk P 397 (F397 P) := ⟨by kernel_rfl, by kernel_rfl, by kernel_rfl⟩
noncomputable abbrev F419 : FuncData := fdIn (hz.zo_328 P)
theorem ok419 : FnOk P 419 (F419 P) := ⟨by kernel_rfl, by kernel_rfl, by kernel_rfl⟩
noncomputable abbrev F426 : FuncData := fdIn (hz.zo_335 P)
theorem ok426 : FnOk P 426 (F426 P) := ⟨by kernel_rfl, by kernel_rfl, by kernel_rfl⟩
noncomputable abbrev F433 : FuncData := fdIn (hz.zo_342 P)
theorem ok433 : FnOk P 433 (F433 P) := ⟨by kernel_rfl, by kernel_rfl, by kernel_rfl⟩
noncomputable abbrev F440 : FuncData := fdIn (hz.zo_349 P)
theorem ok440 : FnOk P 440 (F440 P) := ⟨by kernel_rfl, by kernel_rfl, by kernel_rfl⟩
noncomputable abbrev F447 : FuncData := fdIn (hz.zo_356 P)
theorem ok447 : FnOk P 447 (F447 P) := ⟨by kernel_rfl, by kernel_rfl, by kernel_rfl⟩
noncomputable abbrev F454 : FuncData := fdIn (hz.zo_363 P)
theorem ok454 : FnOk P 454 (F454 P) := ⟨by kernel_rfl, by kernel_rfl, by kernel_rfl⟩
noncomputable abbrev F676 : FuncData := fdIn (hz.zo_545 P)
theorem ok676 : FnOk P 676 (F676 P) := ⟨by kernel_rfl, by kernel_rfl, by kernel_rfl⟩
noncomputable abbrev F683 : FuncData := fdIn (hz.zo_552 P)
theorem ok683 : FnOk P 683 (F683 P) := ⟨by kernel_rfl, by kernel_rfl, by kernel_rfl⟩
noncomputable abbrev F690 : FuncData := fdIn (hz.zo_559 P)
theorem ok690 : FnOk P 690 (F690 P) := ⟨by kernel_rfl, by kernel_rfl, by kernel_rfl⟩
noncomputable abbrev F503 : FuncData := fdIn (hz.zo_404 P)
theorem ok503 : FnOk P 503 (F503 P) := ⟨by kernel_rfl, by kernel_rfl, by kernel_rfl⟩
noncomputable abbrev F697 : FuncData := fdIn (hz.zo_566 P)
theorem ok697 : FnOk P 697 (F697 P) := ⟨by kernel_rfl, by kernel_rfl, by kernel_rfl⟩
noncomputable abbrev F219 : FuncData := fdIn (hz.zo_146 P)
theorem ok219 : FnOk P 219 (F219 P) := ⟨by kernel_rfl, by kernel_rfl, by kernel_rfl⟩
noncomputable abbrev F226 : FuncData := fdIn (hz.zo_153 P)
theorem ok226 : FnOk P 226 (F226 P) := ⟨by kernel_rfl, by kernel_rfl, by kernel_rfl⟩
noncomputable abbrev F233 : FuncData := fdIn (hz.zo_160 P)
theorem ok233 : FnOk P 233 (F233 P) := ⟨by kernel_rfl, by kernel_rfl, by kernel_rfl⟩
noncomputable abbrev F128 : FuncData := fdIn (hz.zo_131 P)
theorem ok128 : FnOk P 128 (F128 P) := ⟨by kernel_rfl, by kernel_rfl, by kernel_rfl⟩
noncomputable abbrev F121 : FuncData := fdIn (hz.zo_124 P)
theorem ok121 : FnOk P 121 (F121 P) := ⟨by kernel_rfl, by kernel_rfl, by kernel_rfl⟩
noncomputable abbrev F135 : FuncData := fdIn (hz.zo_138 P)
theorem ok135 : FnOk P 135 (F135 P) := ⟨by kernel_rfl, by kernel_rfl, by kernel_rfl⟩
noncomputable abbrev F255 : FuncData := fdIn (hz.zo_173 P)
theorem ok255 : FnOk P 255 (F255 P) := ⟨by kernel_rfl, by kernel_rfl, by kernel_rfl⟩
noncomputable abbrev F262 : FuncData := fdIn (hz.zo_180 P)
theorem ok262 : FnOk P 262 (F262 P) := ⟨by kernel_rfl, by kernel_rfl, by kernel_rfl⟩
noncomputable abbrev F269 : FuncData := fdIn (hz.zo_187 P)
theorem ok269 : FnOk P 269 (F269 P) := ⟨by kernel_rfl, by kernel_rfl, by kernel_rfl⟩
noncomputable abbrev F79 : FuncData := fdIn (hz.zo_84 P)
theorem ok79 : FnOk P 79 (F79 P) := ⟨by kernel_rfl, by kernel_rfl, by kernel_rfl⟩
noncomputable abbrev F86 : FuncData := fdIn (hz.zo_91 P)
theorem ok86 : FnOk P 86 (F86 P) := ⟨by kernel_rfl, by kernel_rfl, by kernel_rfl⟩
noncomputable abbrev F93 : FuncData := fdIn (hz.zo_98 P)
theorem ok93 : FnOk P 93 (F93 P) := ⟨by kernel_rfl, by kernel_rfl, by kernel_rfl⟩
noncomputable abbrev F100 : FuncData := fdIn (hz.zo_105 P)
theorem ok100 : FnOk P 100 (F100 P) := ⟨by kernel_rfl, by kernel_rfl, by kernel_rfl⟩
noncomputable abbrev F107 : FuncData := fdIn (hz.zo_112 P)
theorem ok107 : FnOk P 107 (F107 P) := ⟨by kernel_rfl, by kernel_rfl, by kernel_rfl⟩
noncomputable abbrev F709 : FuncData := fdIn (hz.zo_576 P)
theorem ok709 : FnOk P 709 (F709 P) := ⟨by kernel_rfl, by kernel_rfl, by kernel_rfl⟩
noncomputable abbrev F716 : FuncData := fdIn (hz.zo_583 P)
theorem ok716 : FnOk P 716 (F716 P) := ⟨by kernel_rfl, by kernel_rfl, by kernel_rfl⟩
noncomputable abbrev F723 : FuncData := fdIn (hz.zo_590 P)
theorem ok723 : FnOk P 723 (F723 P) := ⟨by kernel_rfl, by kernel_rfl, by kernel_rfl⟩
noncomputable abbrev F730 : FuncData := fdIn (hz.zo_597 P)
theorem ok730 : FnOk P 730 (F730 P) := ⟨by kernel_rfl, by kernel_rfl, by kernel_rfl⟩
noncomputable abbrev F737 : FuncData := fdIn (hz.zo_604 P)
theorem ok737 : FnOk P 737 (F737 P) := ⟨by kernel_rfl, by kernel_rfl, by kernel_rfl⟩
noncomputable abbrev F742 : FuncData := fdIn (hz.zo_609 P)
theorem ok742 : FnOk P 742 (F742 P) := ⟨by kernel_rfl, by kernel_rfl, by kernel_rfl⟩
noncomputable abbrev F749 : FuncData := fdIn (hz.zo_616 P)
theorem ok749 : FnOk P 749 (F749 P) := ⟨by kernel_rfl, by kernel_rfl, by kernel_rfl⟩
noncomputable abbrev F756 : FuncData := fdIn (hz.zo_623 P)
theorem ok756 : FnOk P 756 (F756 P) := ⟨by kernel_rfl, by kernel_rfl, by kernel_rfl⟩
noncomputable abbrev F763 : FuncData := fdIn (hz.zo_630 P)
theorem ok763 : FnOk P 763 (F763 P) := ⟨by kernel_rfl, by kernel_rfl, by kernel_rfl⟩
noncomputable abbrev F770 : FuncData := fdIn (hz.zo_637 P)
theorem ok770 : FnOk P 770 (F770 P) := ⟨by kernel_rfl, by kernel_rfl, by kernel_rfl⟩
noncomputable abbrev F777 : FuncData := fdIn (hz.zo_644 P)
theorem ok777 : FnOk P 777 (F777 P) := ⟨by kernel_rfl, by kernel_rfl, by kernel_rfl⟩
noncomputable abbrev F784 : FuncData := fdIn (hz.zo_651 P)
theorem ok784 : FnOk P 784 (F784 P) := ⟨by kernel_rfl, by kernel_rfl, by kernel_rfl⟩
end Mine
end
section
open PySem PySem.W PyProof.Rows
set_option maxRecDepth 1000000
set_option maxHeartbeats 1000000
namespace Mine
variable {P : Params}

/-- a field of one's own -/
structure FldOk (P : Params) (C : Addr) (x : Str) : Prop where
  ne : x ≠ "__class__"
  ga : findIn (KK P) (.ref C) "__getattribute__" = some (some (.builtin "object.__getattribute__"))
  hd : hasDictIn (KK P) C = true
  at_ : (match findIn (KK P) (.ref C) x with
    | some attr => noGet (KK P) attr
    | none => false) = true
theorem attr_own {n : Nat} {C : Addr} {fs : List (Str × D)} {x : Str} {d : D} (h : FldOk P C x) (hl : fs.lookup x = some d) (hg : notGlob d = true) : (OO P (n + 1)).attr (.dat (.obj C fs)) x = some d := by
  show instAttr (KK P) C fs x = some d
  have h5 := h.at_
  unfold instAttr
  rw [if_neg h.ne, if_pos ⟨h.ga, h.hd⟩]
  split at h5
  · rename_i attr h4
    try rw [h4]
    try dsimp only
    rw [hl]
    dsimp only
    rw [h5, hg]
    rfl
  · cases h5
noncomputable def names457 : List Str := ["major", "minor", "patch", "prerelease", "build", "partial", "_cmp_precedence_key", "_sort_precedence_key"]
theorem own457 (P : Params) : ∀ x ∈ names457, FldOk P 457 x := by
  unfold names457
  simp only [List.forall_mem_cons, List.not_mem_nil, false_implies, implies_true, and_true]
  refine ⟨?_, ?_, ?_, ?_, ?_, ?_, ?_, ?_⟩ <;> exact ⟨by decide +kernel, by kernel_rfl, by kernel_rfl, by kernel_rfl⟩
noncomputable def names700 : List Str := ["operator", "target", "prerelease_policy", "build_policy"]
theorem own700 (P : Params) : ∀ x ∈ names700, FldOk P 700 x := by
  unfold names700
  simp only [List.forall_mem_cons, List.not_mem_nil, false_implies, implies_true, and_true]
  refine ⟨?_, ?_, ?_, ?_⟩ <;> exact ⟨by decide +kernel, by kernel_rfl, by kernel_rfl, by kernel_rfl⟩

/-- identifiers and their keys -/
noncomputable def numD (i : Int) : D := .obj 236 [("value", .int i)]
noncomputable def alpD (b : UInt8) : D := .obj 272 [("value", .bytes #[b])]
noncomputable def maxD : D := .obj 110 []
noncomputable def KT : List (Str × D) := [("a", alpD 97), ("1", numD 1), ("b", alpD 98), ("2", numD 2), ("x", alpD 120), ("y", alpD 121), ("01", numD 1), ("z", alpD 122)]
noncomputable def keyOf (x : Str) : D := (KT.lookup x).getD .none
noncomputable def ids : List Str := ["a", "1", "b", "2", "x", "y", "01", "z"]
noncomputable def stD (p : List Str) : D := .tup (p.map .str)
noncomputable def preKey (p : List Str) : D := .tup (if p.isEmpty then [maxD] else p.map keyOf)
theorem genAll_ids {f : D → Option D} (h : ∀ x ∈ ids, f (.str x) = some (keyOf x)) : ∀ {p : List Str}, (∀ x ∈ p, x ∈ ids) → genAll f (p.map .str) = some (p.map keyOf)
  | [], _ => rfl
  | x :: p, hp => by
    rw [List.map_cons, List.map_cons]
    unfold genAll
    rw [h x (hp x (.head _)), genAll_ids h fun y hy => hp y (.tail _ hy)]
    rfl
theorem gens_of {n : Nat} {sc : Scope} {x : Str} {elt : Expr} {p : List Str} (hb : bmodOk (KK P) = true) (h : ∀ i ∈ ids, ev ⟨sc, ⟨[(x, .str i)], .none⟩, globIn (KK P), OO P n⟩ 20 elt = some (keyOf i)) (hp : ∀ x ∈ p, x ∈ ids) (hl : p.length ≤ 900) : (OO P (n + 1)).gens sc x elt (stD p) = some (.tup (p.map keyOf)) := by
  show gensX (KK P) (OO P n) sc x elt (.tup (p.map .str)) = _
  exact (if_pos ⟨by rw [List.length_map]; exact hl, hb⟩).trans (by rw [genAll_ids (fun i hi => h i hi) hp]; rfl)
theorem all_ids {f : Str → Prop} (h1 : f "a") (h2 : f "1") (h3 : f "b") (h4 : f "2") (h5 : f "x") (h6 : f "y") (h7 : f "01") (h8 : f "z") : ∀ i ∈ ids, f i := by
  unfold ids
  simp only [List.forall_mem_cons, List.not_mem_nil, false_implies, implies_true, and_true]
  exact ⟨h1, h2, h3, h4, h5, h6, h7, h8⟩
theorem bm (P : Params) : bmodOk (KK P) = true := by kernel_rfl

/-- a version's fields, so far -/
noncomputable def vf (a b c : Int) (p q : List Str) (r : List (Str × D)) : List (Str × D) := ("major", .int a) :: ("minor", .int b) :: ("patch", .int c) :: ("prerelease", stD p) :: ("build", stD q) :: ("partial", .bool false) :: r
theorem attrV {n : Nat} {a b c : Int} {p q : List Str} {r : List (Str × D)} {x : Str} {d : D} (hx : x ∈ names457) (hl : (vf a b c p q r).lookup x = some d) (hg : notGlob d = true) : (OO P (n + 1)).attr (.dat (.obj 457 (vf a b c p q r))) x = some d := attr_own (own457 P x hx) hl hg
theorem tru_stD {n : Nat} {p : List Str} (hl : p.length ≤ 900) : (OO P (n + 1)).tru (stD p) = some (!p.isEmpty) := by
  show truD (.tup (p.map .str)) = _
  exact (if_pos (by rw [List.length_map]; omega)).trans (by rw [List.isEmpty_map])
theorem call_max {n : Nat} : (OO P (n + 1)).call (.glob (.ref 110)) [] [] = some maxD := by kernel_rfl

theorem key397 {n : Nat} {a b c : Int} {p q : List Str} {r : List (Str × D)} (hp : ∀ x ∈ p, x ∈ ids) (hl : p.length ≤ 900) : RF P (OO P (n + 8)) 397 [.obj 457 (vf a b c p q r)] [("with_build", .bool false)] = some (.tup [.int a, .int b, .int c, preKey p]) := by
  refine run_w (ok397 P) (dd := [.bool false]) (b := [("self", .obj 457 (vf a b c p q r)), ("with_build", .bool false)]) (by kernel_rfl) (by kernel_rfl) (by kernel_rfl) ?_
  refine ⟨_, attrV (by decide +kernel) rfl rfl, ?_⟩
  refine ⟨_, tru_stD hl, ?_⟩
  cases he : p.isEmpty
  · refine ⟨_, attrV (by decide +kernel) rfl rfl, ?_⟩
    refine ⟨_, gens_of (bm P) (all_ids (by kernel_rfl) (by kernel_rfl) (by kernel_rfl) (by kernel_rfl) (by kernel_rfl) (by kernel_rfl) (by kernel_rfl) (by kernel_rfl)) hp hl, ?_⟩
    refine ⟨_, rfl, ?_⟩
    refine ⟨_, attrV (by decide +kernel) rfl rfl, ?_⟩
    refine ⟨_, attrV (by decide +kernel) rfl rfl, ?_⟩
    refine ⟨_, attrV (by decide +kernel) rfl rfl, ?_⟩
    show D.tup [.int a, .int b, .int c, .tup (p.map keyOf)] = _
    unfold preKey
    rw [he]
    rfl
  · refine ⟨_, call_max, ?_⟩
    refine ⟨_, rfl, ?_⟩
    refine ⟨_, attrV (by decide +kernel) rfl rfl, ?_⟩
    refine ⟨_, attrV (by decide +kernel) rfl rfl, ?_⟩
    refine ⟨_, attrV (by decide +kernel) rfl rfl, ?_⟩
    show D.tup [.int a, .int b, .int c, .tup [maxD]] = _
    unfold preKey
    rw [he]
    rfl
end Mine
end
section
open PySem PySem.W PyProof.Rows
set_option maxRecDepth 1000000
set_option maxHeartbeats 1000000
namespace Mine
variable {P : Params}
theorem key397b {n : Nat} {a b c : Int} {p q : List Str} {r : List (Str × D)} (hp : ∀ x ∈ p, x ∈ ids) (hl : p.length ≤ 900) (hq : ∀ x ∈ q, x ∈ ids) (hlq : q.length ≤ 900) : RF P (OO P (n + 8)) 397 [.obj 457 (vf a b c p q r)] [("with_build", .bool true)] = some (.tup [.int a, .int b, .int c, preKey p, .tup (q.map keyOf)]) := by
  refine run_w (ok397 P) (dd := [.bool false]) (b := [("self", .obj 457 (vf a b c p q r)), ("with_build", .bool true)]) (by kernel_rfl) (by kernel_rfl) (by kernel_rfl) ?_
  have fin : ∀ (k : D), k = preKey p → (∃ x, x = stD q ∧ x = x) → True := fun _ _ _ => trivial
  refine ⟨_, attrV (by decide +kernel) rfl rfl, ?_⟩
  refine ⟨_, tru_stD hl, ?_⟩
  cases he : p.isEmpty
  · refine ⟨_, attrV (by decide +kernel) rfl rfl, ?_⟩
    refine ⟨_, gens_of (bm P) (all_ids (by kernel_rfl) (by kernel_rfl) (by kernel_rfl) (by kernel_rfl) (by kernel_rfl) (by kernel_rfl) (by kernel_rfl) (by kernel_rfl)) hp hl, ?_⟩
    refine ⟨_, rfl, ?_⟩
    refine ⟨_, attrV (by decide +kernel) rfl rfl, ?_⟩
    refine ⟨_, tru_stD hlq, ?_⟩
    have hk : D.tup (p.map keyOf) = preKey p := by unfold preKey; rw [he]; rfl
    cases hqe : q.isEmpty
    · refine ⟨_, gens_of (p := q) (bm P) (all_ids (by kernel_rfl) (by kernel_rfl) (by kernel_rfl) (by kernel_rfl) (by kernel_rfl) (by kernel_rfl) (by kernel_rfl) (by kernel_rfl)) hq hlq, ?_⟩
      refine ⟨_, attrV (by decide +kernel) rfl rfl, ?_⟩
      refine ⟨_, attrV (by decide +kernel) rfl rfl, ?_⟩
      refine ⟨_, attrV (by decide +kernel) rfl rfl, ?_⟩
      show D.tup [.int a, .int b, .int c, .tup (p.map keyOf), .tup (q.map keyOf)] = _
      rw [hk]
    · have : q = [] := List.isEmpty_iff.mp hqe
      subst this
      refine ⟨_, gens_of (p := []) (bm P) (all_ids (by kernel_rfl) (by kernel_rfl) (by kernel_rfl) (by kernel_rfl) (by kernel_rfl) (by kernel_rfl) (by kernel_rfl) (by kernel_rfl)) hq hlq, ?_⟩
      refine ⟨_, attrV (by decide +kernel) rfl rfl, ?_⟩
      refine ⟨_, attrV (by decide +kernel) rfl rfl, ?_⟩
      refine ⟨_, attrV (by decide +kernel) rfl rfl, ?_⟩
      show D.tup [.int a, .int b, .int c, .tup (p.map keyOf), .tup []] = _
      rw [hk]; rfl
  · refine ⟨_, call_max, ?_⟩
    refine ⟨_, rfl, ?_⟩
    refine ⟨_, attrV (by decide +kernel) rfl rfl, ?_⟩
    refine ⟨_, tru_stD hlq, ?_⟩
    have hk : D.tup [maxD] = preKey p := by unfold preKey; rw [he]; rfl
    cases hqe : q.isEmpty
    · refine ⟨_, gens_of (p := q) (bm P) (all_ids (by kernel_rfl) (by kernel_rfl) (by kernel_rfl) (by kernel_rfl) (by kernel_rfl) (by kernel_rfl) (by kernel_rfl) (by kernel_rfl)) hq hlq, ?_⟩
      refine ⟨_, attrV (by decide +kernel) rfl rfl, ?_⟩
      refine ⟨_, attrV (by decide +kernel) rfl rfl, ?_⟩
      refine ⟨_, attrV (by decide +kernel) rfl rfl, ?_⟩
      show D.tup [.int a, .int b, .int c, .tup [maxD], .tup (q.map keyOf)] = _
      rw [hk]
    · have : q = [] := List.isEmpty_iff.mp hqe
      subst this
      refine ⟨_, gens_of (p := []) (bm P) (all_ids (by kernel_rfl) (by kernel_rfl) (by kernel_rfl) (by kernel_rfl) (by kernel_rfl) (by kernel_rfl) (by kernel_rfl) (by kernel_rfl)) hq hlq, ?_⟩
      refine ⟨_, attrV (by decide +kernel) rfl rfl, ?_⟩
      refine ⟨_, attrV (by decide +kernel) rfl rfl, ?_⟩
      refine ⟨_, attrV (by decide +kernel) rfl rfl, ?_⟩
      show D.tup [.int a, .int b, .int c, .tup [maxD], .tup []] = _
      rw [hk]; rfl

noncomputable def pres : List (List Str) := [[], ["a"], ["a", "1"], ["b"], ["1"], ["2"], ["1", "a"]]
noncomputable def blds : List (List Str) := [[], ["x"], ["x", "1"], ["y"], ["1"], ["01"], ["x", "y"], ["z"], ["x", "z"], ["x", "1", "z"], ["y", "z"], ["1", "z"], ["01", "z"], ["x", "y", "z"]]
theorem pres_ids : ∀ p ∈ pres, (∀ x ∈ p, x ∈ ids) ∧ p.length ≤ 900 := by decide +kernel
theorem blds_ids : ∀ p ∈ blds, (∀ x ∈ p, x ∈ ids) ∧ p.length ≤ 900 := by decide +kernel
theorem val_pre {n : Nat} : ∀ p ∈ pres, RF P (OO P (n + 4)) 362 [.glob (.ref 457), stD p] [("allow_leading_zeroes", .bool false)] = some .none := by
  unfold pres
  simp only [List.forall_mem_cons, List.not_mem_nil, false_implies, implies_true, and_true]
  refine ⟨?_, ?_, ?_, ?_, ?_, ?_, ?_⟩ <;> kernel_rfl
theorem val_bld {n : Nat} : ∀ p ∈ blds, RF P (OO P (n + 4)) 362 [.glob (.ref 457), stD p] [("allow_leading_zeroes", .bool true)] = some .none := by
  unfold blds
  simp only [List.forall_mem_cons, List.not_mem_nil, false_implies, implies_true, and_true]
  refine ⟨?_, ?_, ?_, ?_, ?_, ?_, ?_, ?_, ?_, ?_, ?_, ?_, ?_, ?_⟩ <;> kernel_rfl
theorem int_int {n : Nat} {a : Int} : (OO P (n + 1)).call (.glob (.type "int")) [.int a] [] = some (.int a) := call_blt rfl rfl rfl
theorem ne_self {n : Nat} {a : Int} : (OO P (n + 1)).cmp .NotEq (.int a) (.int a) = some (.bool false) := by
  show ((intCmp .NotEq a a).map D.bool) = _
  simp [intCmp]
theorem coerce300 {n : Nat} {a : Int} : RF P (OO P (n + 2)) 300 [.glob (.ref 457), .int a, .bool false] [] = some (.int a) := by
  refine run_w (ok300 P) (dd := [.bool false]) (b := [("cls", .glob (.ref 457)), ("value", .int a), ("allow_none", .bool false)]) (by kernel_rfl) (by kernel_rfl) (by kernel_rfl) ?_
  refine ⟨_, rfl, ?_⟩
  refine ⟨_, rfl, ?_⟩
  refine ⟨_, int_int, ?_⟩
  rfl
theorem clsM_coerce (P : Params) : clsM (KK P) 457 "_coerce" = some (300, true) := by kernel_rfl
theorem clsM_vi (P : Params) : clsM (KK P) 457 "_validate_identifiers" = some (362, true) := by kernel_rfl
theorem kwargs372 {n : Nat} {a b c : Int} {p q : List Str} (hp : p ∈ pres) (hq : q ∈ blds) : RF P (OO P (n + 6)) 372 [.glob (.ref 457), .int a, .int b, .int c, stD p, stD q, .bool false] [] = some .none := by
  refine run_w (ok372 P) (dd := []) (b := [("cls", .glob (.ref 457)), ("major", .int a), ("minor", .int b), ("patch", .int c), ("prerelease", stD p), ("build", stD q), ("partial", .bool false)]) (by kernel_rfl) (by kernel_rfl) (by kernel_rfl) ?_
  refine ⟨_, int_int, ?_⟩
  refine ⟨_, ne_self, ?_⟩
  refine ⟨_, rfl, ?_⟩
  refine ⟨_, meth_cls rfl (clsM_coerce P) coerce300, ?_⟩
  refine ⟨_, ne_self, ?_⟩
  refine ⟨_, rfl, ?_⟩
  refine ⟨_, meth_cls rfl (clsM_coerce P) coerce300, ?_⟩
  refine ⟨_, ne_self, ?_⟩
  refine ⟨_, rfl, ?_⟩
  refine ⟨_, rfl, ?_⟩
  refine ⟨_, rfl, ?_⟩
  refine ⟨_, rfl, ?_⟩
  refine ⟨_, rfl, ?_⟩
  refine ⟨_, rfl, ?_⟩
  refine ⟨_, rfl, ?_⟩
  refine ⟨_, meth_cls rfl (clsM_vi P) (val_pre p hp), ?_⟩
  refine ⟨_, rfl, ?_⟩
  refine ⟨_, rfl, ?_⟩
  refine ⟨_, meth_cls rfl (clsM_vi P) (val_bld q hq), ?_⟩
  rfl
end Mine
end
section
open PySem PySem.W PyProof.Rows
set_option maxRecDepth 1000000
set_option maxHeartbeats 1000000
namespace Mine
variable {P : Params}
/-- a version -/
noncomputable def verD (a b c : Int) (p q : List Str) : D := .obj 457 (vf a b c p q [("_cmp_precedence_key", .tup [.int a, .int b, .int c, preKey p]), ("_sort_precedence_key", .tup [.int a, .int b, .int c, preKey p, .tup (q.map keyOf)])])
/-- as it is handed on: a tuple, or None for the empty one -/
noncomputable def PA (d : D) (p : List Str) : Prop := d = stD p ∨ (d = .none ∧ p = [])
theorem tru_none {n : Nat} : (OO P (n + 1)).tru .none = some false := rfl
theorem tup_stD {n : Nat} {p : List Str} : (OO P (n + 1)).call (.glob (.type "tuple")) [stD p] [] = some (stD p) := call_blt rfl rfl rfl
theorem instM_vk (P : Params) : instM (KK P) 457 [] "_validate_kwargs" = some (372, false) := by kernel_rfl
theorem instM_bk (a b c : Int) (p q : List Str) (P : Params) : instM (KK P) 457 (vf a b c p q []) "_build_precedence_key" = some (397, true) := by kernel_rfl
theorem instM_bk2 (a b c : Int) (p q : List Str) (d : D) (P : Params) : instM (KK P) 457 (vf a b c p q [("_cmp_precedence_key", d)]) "_build_precedence_key" = some (397, true) := by kernel_rfl
theorem clean_keys {C : Addr} {ns : List Str} (hC : C = 457) (hn : ns ≠ [] ∧ ns ≠ [Str.ofString "value"]) : ∀ {p : List Str}, (∀ x ∈ p, x ∈ ids) → cleanL C ns (p.map keyOf) = true
  | [], _ => rfl
  | x :: p, h => by
    rw [List.map_cons]
    unfold cleanL
    rw [clean_keys hC hn fun y hy => h y (.tail _ hy), Bool.and_true]
    have hx := h x (.head _)
    have e1 : (([] : List Str) != ns) = true := by rw [bne_iff_ne]; exact fun e => hn.1 e.symm
    have e2 : (([Str.ofString "value"] : List Str) != ns) = true := by rw [bne_iff_ne]; exact fun e => hn.2 e.symm
    subst hC
    have two : ∀ i, clean 457 ns (numD i) = true := fun i => by unfold numD clean; simp only [List.map_cons, List.map_nil, e2]; rfl
    have three : ∀ i, clean 457 ns (alpD i) = true := fun i => by unfold alpD clean; simp only [List.map_cons, List.map_nil, e2]; rfl
    unfold ids at hx
    simp only [List.mem_cons, List.not_mem_nil, or_false] at hx
    rcases hx with rfl | rfl | rfl | rfl | rfl | rfl | rfl | rfl
    · exact three _
    · exact two _
    · exact three _
    · exact two _
    · exact three _
    · exact three _
    · exact two _
    · exact three _
theorem clean_pre {ns : List Str} (hn : ns ≠ [] ∧ ns ≠ [Str.ofString "value"]) {p : List Str} (hp : ∀ x ∈ p, x ∈ ids) : clean 457 ns (preKey p) = true := by
  unfold preKey clean
  cases p.isEmpty with
  | false => exact clean_keys rfl hn hp
  | true =>
    have e1 : (([] : List Str) != ns) = true := by rw [bne_iff_ne]; exact fun e => hn.1 e.symm
    unfold maxD
    simp only [if_true, cleanL, clean, List.map_nil, e1, cleanF]
    rfl

theorem names_vf {a b c : Int} {p q : List Str} {r : List (Str × D)} : (vf a b c p q r).map (·.1) = (["major", "minor", "patch", "prerelease", "build", "partial"] : List Str) ++ r.map (·.1) := rfl
theorem clean_key {a b c : Int} {p : List Str} {ns : List Str} (hn : ns ≠ [] ∧ ns ≠ [Str.ofString "value"]) (hp : ∀ x ∈ p, x ∈ ids) : clean 457 ns (.tup [.int a, .int b, .int c, preKey p]) = true := by
  simp only [clean, cleanL, clean_pre hn hp]; rfl
theorem clean_keyb {a b c : Int} {p q : List Str} {ns : List Str} (hn : ns ≠ [] ∧ ns ≠ [Str.ofString "value"]) (hp : ∀ x ∈ p, x ∈ ids) (hq : ∀ x ∈ q, x ∈ ids) : clean 457 ns (.tup [.int a, .int b, .int c, preKey p, .tup (q.map keyOf)]) = true := by
  simp only [clean, cleanL, clean_pre hn hp, clean_keys rfl hn hq]; rfl
theorem initF {n : Nat} {a b c : Int} {p q : List Str} {pa qa : D} {ks : List (Str × D)} (hpa : PA pa p) (hqa : PA qa q) (hp : p ∈ pres) (hq : q ∈ blds)
    (h6 : bindL ((F292 P).params.args.map (·.arg)) [.glob .none] ks [.none, .none, .none, .none, .none, .none, .bool false] = some ([("self", .glob .none), ("version_string", .none), ("major", .int a), ("minor", .int b), ("patch", .int c), ("prerelease", pa), ("build", qa), ("partial", .bool false)] : List (Str × D)))
    (hks : ks.all (fun y => notGlob y.2) = true) : runInit (KK P) OWN (OO P (n + 9)) 457 [] ks = some (verD a b c p q) := by
  obtain ⟨hpi, hpl⟩ := pres_ids p hp
  obtain ⟨hqi, hql⟩ := blds_ids q hq
  have hnp : notGlob pa = true := by rcases hpa with rfl | ⟨rfl, _⟩ <;> rfl
  have hnq : notGlob qa = true := by rcases hqa with rfl | ⟨rfl, _⟩ <;> rfl
  refine init_w (ok292 P) (dd := [.none, .none, .none, .none, .none, .none, .bool false]) (b := [("self", .glob .none), ("version_string", .none), ("major", .int a), ("minor", .int b), ("patch", .int c), ("prerelease", pa), ("build", qa), ("partial", .bool false)]) (by kernel_rfl) (by kernel_rfl) (by kernel_rfl) (by kernel_rfl) rfl h6 ?_ ?_
  · simp only [List.all_cons, List.all_nil, hks, hnp, hnq]
    kernel_rfl
  have n1 : ((vf a b c p q []).map (·.1)) ≠ [] ∧ ((vf a b c p q []).map (·.1)) ≠ [Str.ofString "value"] := by rw [names_vf]; decide
  have n2 : ∀ d, ((vf a b c p q [("_cmp_precedence_key", d)]).map (·.1)) ≠ [] ∧ ((vf a b c p q [("_cmp_precedence_key", d)]).map (·.1)) ≠ [Str.ofString "value"] := by intro d; rw [names_vf, List.map_cons, List.map_nil]; dsimp only; decide
  refine x_asg (d := .bool false) rfl ⟨_, rfl, rfl⟩ ?_
  refine x_asg (d := .bool true) rfl (by repeat first | exact rfl | refine ⟨_, rfl, ?_⟩) ?_
  refine x_if false (by repeat first | exact rfl | refine ⟨_, rfl, ?_⟩) (x_done ?_)
  refine x_if false (by repeat first | exact rfl | refine ⟨_, rfl, ?_⟩) ?_
  refine x_asg (d := stD p) rfl ?_ ?_
  · rcases hpa with rfl | ⟨rfl, rfl⟩
    · refine ⟨_, tru_stD hpl, ?_⟩
      cases he : p.isEmpty
      · exact ⟨_, tup_stD, rfl⟩
      · have : p = [] := List.isEmpty_iff.mp he
        subst this
        exact ⟨_, tup_stD (p := []), rfl⟩
    · exact ⟨_, tru_none, _, tup_stD (p := []), rfl⟩
  refine x_if true (by repeat first | exact rfl | refine ⟨_, rfl, ?_⟩) ?_
  refine x_asg (d := stD q) rfl ?_ (x_done ?_)
  · rcases hqa with rfl | ⟨rfl, rfl⟩
    · refine ⟨_, tru_stD hql, ?_⟩
      cases he : q.isEmpty
      · exact ⟨_, tup_stD, rfl⟩
      · have : q = [] := List.isEmpty_iff.mp he
        subst this
        exact ⟨_, tup_stD (p := []), rfl⟩
    · exact ⟨_, tru_none, _, tup_stD (p := []), rfl⟩
  refine x_exp2 (d := .none) ⟨_, meth_selfc (instM_vk P) (kwargs372 hp hq), rfl⟩ (x_done ?_)
  refine x_self (d := .int a) rfl rfl rfl ?_
  refine x_self (d := .int b) rfl rfl rfl ?_
  refine x_self (d := .int c) rfl rfl rfl ?_
  refine x_self (d := stD p) rfl rfl rfl ?_
  refine x_self (d := stD q) rfl rfl rfl ?_
  refine x_self (d := .bool false) rfl rfl rfl ?_
  refine x_self rfl rfl ⟨_, meth_self (instM_bk a b c p q P) (key397 hpi hpl) (clean_key n1 hpi), rfl⟩ ?_
  refine x_self rfl rfl ⟨_, meth_self (instM_bk2 a b c p q _ P) (key397b hpi hpl hqi hql) (clean_keyb (n2 _) hpi hqi), rfl⟩ ?_
  exact x_nil ⟨rfl, rfl⟩
end Mine
end
section
open PySem PySem.W PyProof.Rows
set_option maxRecDepth 1000000
set_option maxHeartbeats 1000000
namespace Mine
variable {P : Params}
theorem isCls457 (P : Params) : (fnAt (KK P) 457).isSome = false := by kernel_rfl
theorem nil_blds : ([] : List Str) ∈ blds := by decide +kernel
theorem nil_pres : ([] : List Str) ∈ pres := by decide +kernel
section
variable {n : Nat} {a b c : Int} {p q : List Str}
theorem mk5 (hp : p ∈ pres) (hq : q ∈ blds) : (OO P (n + 10)).call (.glob (.ref 457)) [] [("major", .int a), ("minor", .int b), ("patch", .int c), ("prerelease", stD p), ("build", stD q)] = some (verD a b c p q) :=
  call_cls (isCls457 P) rfl (initF (.inl rfl) (.inl rfl) hp hq (by kernel_rfl) rfl)
theorem mkT4 (hp : p ∈ pres) : (OO P (n + 10)).call (.glob (.ref 457)) [] [("major", .int a), ("minor", .int b), ("patch", .int c), ("prerelease", stD p), ("partial", .bool false)] = some (verD a b c p []) :=
  call_cls (isCls457 P) rfl (initF (.inl rfl) (.inr ⟨rfl, rfl⟩) hp nil_blds (by kernel_rfl) rfl)
theorem mkT3 : (OO P (n + 10)).call (.glob (.ref 457)) [] [("major", .int a), ("minor", .int b), ("patch", .int c), ("partial", .bool false)] = some (verD a b c [] []) :=
  call_cls (isCls457 P) rfl (initF (.inr ⟨rfl, rfl⟩) (.inr ⟨rfl, rfl⟩) nil_pres nil_blds (by kernel_rfl) rfl)
/-- a version's own fields -/
theorem aV {x : Str} {d : D} (hx : x ∈ names457) (hl : (vf a b c p q [("_cmp_precedence_key", .tup [.int a, .int b, .int c, preKey p]), ("_sort_precedence_key", .tup [.int a, .int b, .int c, preKey p, .tup (q.map keyOf)])]).lookup x = some d) (hg : notGlob d = true) : (OO P (n + 1)).attr (.dat (verD a b c p q)) x = some d := attr_own (own457 P x hx) hl hg
theorem a_major : (OO P (n + 1)).attr (.dat (verD a b c p q)) "major" = some (.int a) := aV (by decide +kernel) rfl rfl
theorem a_minor : (OO P (n + 1)).attr (.dat (verD a b c p q)) "minor" = some (.int b) := aV (by decide +kernel) rfl rfl
theorem a_patch : (OO P (n + 1)).attr (.dat (verD a b c p q)) "patch" = some (.int c) := aV (by decide +kernel) rfl rfl
theorem a_pre : (OO P (n + 1)).attr (.dat (verD a b c p q)) "prerelease" = some (stD p) := aV (by decide +kernel) rfl rfl
theorem a_bld : (OO P (n + 1)).attr (.dat (verD a b c p q)) "build" = some (stD q) := aV (by decide +kernel) rfl rfl
theorem a_part : (OO P (n + 1)).attr (.dat (verD a b c p q)) "partial" = some (.bool false) := aV (by decide +kernel) rfl rfl
theorem a_key : (OO P (n + 1)).attr (.dat (verD a b c p q)) "_cmp_precedence_key" = some (.tup [.int a, .int b, .int c, preKey p]) := aV (by decide +kernel) rfl rfl
theorem trunc_pre (hp : p ∈ pres) : RF P (OO P (n + 10)) 332 [verD a b c p q, .str "prerelease"] [] = some (verD a b c p []) := by
  refine run_w (ok332 P) (dd := [.str "patch"]) (b := [("self", verD a b c p q), ("level", .str "prerelease")]) (by kernel_rfl) (by kernel_rfl) (by kernel_rfl) ?_
  refine x_if false (by repeat first | exact rfl | refine ⟨_, rfl, ?_⟩) ?_
  refine x_if true (by repeat first | exact rfl | refine ⟨_, rfl, ?_⟩) ?_
  exact x_ret ⟨_, a_major, _, a_minor, _, a_patch, _, a_pre, _, a_part, _, mkT4 hp, rfl⟩ rfl
theorem trunc_patch : RF P (OO P (n + 10)) 332 [verD a b c p q] [] = some (verD a b c [] []) := by
  refine run_w (ok332 P) (dd := [.str "patch"]) (b := [("self", verD a b c p q), ("level", .str "patch")]) (by kernel_rfl) (by kernel_rfl) (by kernel_rfl) ?_
  refine x_if false (by repeat first | exact rfl | refine ⟨_, rfl, ?_⟩) ?_
  refine x_if false (by repeat first | exact rfl | refine ⟨_, rfl, ?_⟩) ?_
  refine x_if true (by repeat first | exact rfl | refine ⟨_, rfl, ?_⟩) ?_
  exact x_ret ⟨_, a_major, _, a_minor, _, a_patch, _, a_part, _, mkT3, rfl⟩ rfl
theorem m_tr (hp : p ∈ pres) : (OO P (n + 11)).meth (.dat (verD a b c p q)) "truncate" [.str "prerelease"] [] = some (verD a b c p []) := meth_obj (by kernel_rfl) (trunc_pre hp)
theorem m_tr0 : (OO P (n + 11)).meth (.dat (verD a b c p q)) "truncate" [] [] = some (verD a b c [] []) := meth_obj (by kernel_rfl) trunc_patch
end
end Mine
end
section
open PySem PySem.W PyProof.Rows
set_option maxRecDepth 1000000
set_option maxHeartbeats 1000000
namespace Mine
variable {P : Params}
/-- tuples of strings -/
theorem sameL_str : ∀ {l r : List Str}, sameL (l.map .str) (r.map .str) = (l == r)
  | [], [] => rfl
  | [], _ :: _ => rfl
  | _ :: _, [] => rfl
  | x :: l, y :: r => by
    rw [List.map_cons, List.map_cons]
    unfold sameL sameD
    rw [sameL_str]
    rfl
theorem rcL_str {rc : CmpOp → D → D → Option D} : ∀ {l r : List Str} {k : Nat}, rcL rc .Eq (k + l.length) (k + r.length) (l.map .str) (r.map .str) = some (.bool (l == r))
  | [], [], k => by unfold rcL sizesB; simp
  | [], _ :: r, k => by unfold rcL sizesB; simp [List.length]
  | _ :: l, [], k => by unfold rcL sizesB; simp [List.length]
  | x :: l, y :: r, k => by
    have e1 : k + (x :: l).length = (k + 1) + l.length := by rw [List.length_cons]; omega
    have e2 : k + (y :: r).length = (k + 1) + r.length := by rw [List.length_cons]; omega
    rw [List.map_cons, List.map_cons, e1, e2]
    unfold rcL eqOf
    have e3 : (x :: l == y :: r) = (x == y && l == r) := rfl
    rw [e3]
    cases hxy : x == y with
    | true => simp only [hxy, rcL_str, Bool.true_and]
    | false => simp only [hxy, Bool.false_and]
theorem rc_stD {oc} {n : Nat} {p q : List Str} : rcN oc (n + 1) .Eq (stD p) (stD q) = some (.bool (p == q)) := by
  show rcL (rcN oc n) .Eq (p.map D.str).length (q.map D.str).length (p.map .str) (q.map .str) = _
  have := rcL_str (rc := rcN oc n) (l := p) (r := q) (k := 0)
  rw [Nat.zero_add, Nat.zero_add] at this
  rw [List.length_map, List.length_map]
  exact this
theorem eqOf_stD {oc} {n : Nat} {p q : List Str} : eqOf (rcN oc (n + 1)) (stD p) (stD q) = some (p == q) := by
  show (match rcN oc (n + 1) .Eq (stD p) (stD q) with
    | some (.bool t) => if (t || !sameD (stD p) (stD q)) = true then some t else none
    | _ => none) = _
  rw [rc_stD]
  show (if ((p == q) || !sameL (p.map .str) (q.map .str)) = true then some (p == q) else none) = _
  rw [sameL_str]
  cases p == q <;> rfl
theorem cmp_stD {n : Nat} {p q : List Str} : (OO P (n + 1)).cmp .Eq (stD p) (stD q) = some (.bool (p == q)) := rc_stD
theorem cmp_int {n : Nat} {a b : Int} : (OO P (n + 1)).cmp .Eq (.int a) (.int b) = some (.bool (a == b)) := rfl
theorem cmp_str {n : Nat} {a b : Str} : (OO P (n + 1)).cmp .Eq (.str a) (.str b) = some (.bool (a == b)) := rfl
theorem cmp_strN {n : Nat} {a b : Str} : (OO P (n + 1)).cmp .NotEq (.str a) (.str b) = some (.bool (a != b)) := rfl
theorem tru_b {n : Nat} {t : Bool} : (OO P (n + 1)).tru (.bool t) = some t := rfl

section
variable {n : Nat} {a b c a' b' c' : Int} {p q p' q' : List Str}
theorem a_cls : (OO P (n + 1)).attr (.dat (verD a b c p q)) "__class__" = some (.glob (.ref 457)) := by kernel_rfl
theorem isin457 : (OO P (n + 1)).call (.glob (.builtin "isinstance")) [verD a b c p q, .glob (.ref 457)] [] = some (.bool true) := by kernel_rfl
/-- alike -/
noncomputable def eqV (a b c : Int) (p q : List Str) (a' b' c' : Int) (p' q' : List Str) : Bool := a == a' && (b == b' && (c == c' && (p == p' && q == q')))
/-- `self.x or ()` -/
theorem or_nil {p : List Str} {e : Expr} {c : PC} {m : Nat} {pos tp : Pos} {k : Nat} (hl : p.length ≤ 900) (hc : c.ops = OO P (n + 1)) (h : wE c (m + 1) e (· = stD p)) : wE c (m + 2) (.BoolOp .Or [e, .Tuple [] k tp] pos) (· = stD p) := by
  show wE c (m + 1) e fun d => W (c.ops.tru d) _
  refine wE_cut h ⟨_, by rw [hc]; exact tru_stD hl, ?_⟩
  cases he : p.isEmpty
  · rfl
  · have : p = [] := List.isEmpty_iff.mp he
    subst this
    rfl
theorem eq419 (hl : p.length ≤ 900) (hl' : p'.length ≤ 900) (hq : q.length ≤ 900) (hq' : q'.length ≤ 900) : RF P (OO P (n + 2)) 419 [verD a b c p q, verD a' b' c' p' q'] [] = some (.bool (eqV a b c p q a' b' c' p' q')) := by
  refine run_w (ok419 P) (dd := []) (b := [("self", verD a b c p q), ("other", verD a' b' c' p' q')]) (by kernel_rfl) (by kernel_rfl) (by kernel_rfl) ?_
  refine x_if false ⟨_, a_cls, _, isin457, _, tru_b, rfl⟩ (x_done ?_)
  refine x_ret (d := .bool (eqV a b c p q a' b' c' p' q')) ?_ rfl
  have tr : ∀ b, (OO P (n + 1)).tru (.bool b) = some b := fun _ => rfl
  refine e_andB tr ⟨_, a_major, _, a_major, _, cmp_int, rfl⟩ (fun h1 => ?_) (fun h1 => by unfold eqV; rw [h1]; rfl)
  refine e_andB tr ⟨_, a_minor, _, a_minor, _, cmp_int, rfl⟩ (fun h2 => ?_) (fun h2 => by unfold eqV; rw [h1, h2]; rfl)
  refine e_andB tr ⟨_, a_patch, _, a_patch, _, cmp_int, rfl⟩ (fun h3 => ?_) (fun h3 => by unfold eqV; rw [h1, h2, h3]; rfl)
  refine e_andB (t := p == p') tr (e_cmp rfl (or_nil hl rfl ?_) (or_nil hl' rfl ?_) cmp_stD rfl) (fun h4 => ?_) (fun h4 => by unfold eqV; rw [h1, h2, h3, h4]; rfl)
  · exact ⟨_, a_pre, rfl⟩
  · exact ⟨_, a_pre, rfl⟩
  refine e_one (e_cmp rfl (or_nil hq rfl ?_) (or_nil hq' rfl ?_) cmp_stD (by unfold eqV; rw [h1, h2, h3, h4]; rfl))
  · exact ⟨_, a_bld, rfl⟩
  · exact ⟨_, a_bld, rfl⟩
end
end Mine
end
section
open PySem PySem.W PyProof.Rows
set_option maxRecDepth 1000000
set_option maxHeartbeats 1000000
namespace Mine
variable {P : Params}
noncomputable def RK : List (List Str × Int) := [(["1"], 0), (["1", "a"], 1), (["2"], 2), (["a"], 3), (["a", "1"], 4), (["b"], 5), ([], 6)]
noncomputable def rank (p : List Str) : Int := (RK.lookup p).getD 7
noncomputable def intB (op : CmpOp) (i j : Int) : Bool := (intCmp op i j).getD false
noncomputable def isB : Option D → Option Bool
  | some (.bool t) => some t
  | _ => none
theorem isB_some {x : Option D} {t : Bool} (h : (isB x == some t) = true) : x = some (.bool t) := by
  have h := eq_of_beq h
  unfold isB at h
  split at h
  · cases h; rfl
  · cases h
theorem keyEq {n : Nat} : (pres.all fun p => pres.all fun p' => eqOf (rcN (objCmp (KK P) (OO P (n + 6))) 7) (preKey p) (preKey p') == some (rank p == rank p')) = true := by kernel_rfl
theorem keyLt {n : Nat} : (pres.all fun p => pres.all fun p' => isB (rcN (objCmp (KK P) (OO P (n + 6))) 7 .Lt (preKey p) (preKey p')) == some (intB .Lt (rank p) (rank p'))) = true := by kernel_rfl
theorem keyLtE {n : Nat} : (pres.all fun p => pres.all fun p' => isB (rcN (objCmp (KK P) (OO P (n + 6))) 7 .LtE (preKey p) (preKey p')) == some (intB .LtE (rank p) (rank p'))) = true := by kernel_rfl
theorem keyGt {n : Nat} : (pres.all fun p => pres.all fun p' => isB (rcN (objCmp (KK P) (OO P (n + 6))) 7 .Gt (preKey p) (preKey p')) == some (intB .Gt (rank p) (rank p'))) = true := by kernel_rfl
theorem keyGtE {n : Nat} : (pres.all fun p => pres.all fun p' => isB (rcN (objCmp (KK P) (OO P (n + 6))) 7 .GtE (preKey p) (preKey p')) == some (intB .GtE (rank p) (rank p'))) = true := by kernel_rfl
end Mine
end
section
open PySem PySem.W PyProof.Rows
set_option maxRecDepth 1000000
set_option maxHeartbeats 1000000
namespace Mine
variable {P : Params}
noncomputable def sz0 (op : CmpOp) : Bool := sizesB op 0 0
theorem sizesB_self (op : CmpOp) (m : Nat) : sizesB op m m = sz0 op := by
  unfold sz0 sizesB
  cases op <;> simp
/-- rows of numbers with a last rank, in order -/
noncomputable def lexB (op : CmpOp) (b c : Int) (r : Int) (b' c' : Int) (r' : Int) : Bool := if b == b' then (if c == c' then (if r == r' then sz0 op else intB op r r') else intB op c c') else intB op b b'
theorem pair_of {f : List Str → List Str → Bool} (h : (pres.all fun p => pres.all fun p' => f p p') = true) {p p' : List Str} (hp : p ∈ pres) (hp' : p' ∈ pres) : f p p' = true := List.all_eq_true.mp (List.all_eq_true.mp h p hp) p' hp'
noncomputable def isLess : CmpOp → Bool
  | .Lt | .LtE | .Gt | .GtE => true
  | _ => false
theorem rcN_int {oc n} {op : CmpOp} (ho : isLess op = true) {i j : Int} : rcN oc (n + 1) op (.int i) (.int j) = some (.bool (intB op i j)) := by
  show (intCmp op i j).map D.bool = _
  unfold intB
  cases op <;> first | rfl | cases ho
theorem eqOf_int {rc} {i j : Int} : eqOf rc (.int i) (.int j) = some (i == j) := rfl
theorem rcL_step {rc : CmpOp → D → D → Option D} {op : CmpOp} {m n : Nat} {x y : D} {l r : List D} {e t u : Bool} (ho : isLess op = true) (h1 : eqOf rc x y = some e) (h2 : e = false → rc op x y = some (.bool t)) (h3 : e = true → rcL rc op m n l r = some (.bool u)) : rcL rc op m n (x :: l) (y :: r) = some (.bool (if e then u else t)) := by
  unfold rcL
  rw [h1]
  cases e with
  | true => exact h3 rfl
  | false =>
    have h2 := h2 rfl
    cases op <;> first | (simp only [h2]; rfl) | cases ho
theorem rcL_lex {oc} {N : Nat} {op : CmpOp} (ho : isLess op = true) {a b c b' c' r r' : Int} {m n : Nat} {l l' : List D} (h : rcL (rcN oc (N + 1)) op m n l l' = some (.bool (if r == r' then sz0 op else intB op r r'))) : rcL (rcN oc (N + 1)) op m n (.int a :: .int b :: .int c :: l) (.int a :: .int b' :: .int c' :: l') = some (.bool (lexB op b c r b' c' r')) := by
  have := rcL_step (t := false) (m := m) (n := n) ho (eqOf_int (rc := rcN oc (N + 1)) (i := a) (j := a)) (fun e => by rw [beq_self_eq_true] at e; cases e) fun _ =>
    rcL_step ho (eqOf_int (i := b) (j := b')) (fun _ => rcN_int ho) fun _ => rcL_step ho (eqOf_int (i := c) (j := c')) (fun _ => rcN_int ho) fun _ => h
  rw [this]
  simp only [beq_self_eq_true, if_true]
  rfl
theorem key_op {n : Nat} {p p' : List Str} (hp : p ∈ pres) (hp' : p' ∈ pres) : ∀ {op}, isLess op = true → rcN (objCmp (KK P) (OO P (n + 6))) 7 op (preKey p) (preKey p') = some (.bool (intB op (rank p) (rank p')))
  | .Lt, _ => isB_some (pair_of keyLt hp hp')
  | .LtE, _ => isB_some (pair_of keyLtE hp hp')
  | .Gt, _ => isB_some (pair_of keyGt hp hp')
  | .GtE, _ => isB_some (pair_of keyGtE hp hp')
theorem key_eq {n : Nat} {p p' : List Str} (hp : p ∈ pres) (hp' : p' ∈ pres) : eqOf (rcN (objCmp (KK P) (OO P (n + 6))) 7) (preKey p) (preKey p') = some (rank p == rank p') := eq_of_beq (pair_of keyEq hp hp')
/-- precedence keys -/
theorem cmp_key {n : Nat} {a b c b' c' : Int} {p p' : List Str} (hp : p ∈ pres) (hp' : p' ∈ pres) {op : CmpOp} (ho : isLess op = true) : (OO P (n + 7)).cmp op (.tup [.int a, .int b, .int c, preKey p]) (.tup [.int a, .int b', .int c', preKey p']) = some (.bool (lexB op b c (rank p) b' c' (rank p'))) := by
  have e : (OO P (n + 7)).cmp op (.tup [.int a, .int b, .int c, preKey p]) (.tup [.int a, .int b', .int c', preKey p']) = rcL (rcN (objCmp (KK P) (OO P (n + 6))) 7) op 4 4 [.int a, .int b, .int c, preKey p] [.int a, .int b', .int c', preKey p'] := by
    cases op <;> first | rfl | cases ho
  rw [e]
  refine rcL_lex ho ?_
  refine rcL_step ho (key_eq hp hp') (fun _ => key_op hp hp' ho) fun _ => ?_
  show some (D.bool (sizesB op 4 4)) = _
  rw [sizesB_self]

theorem cmp_obj {n : Nat} {op : CmpOp} {C C' f : Addr} {fs gs : List (Str × D)} {t : Bool} (ho : isOrd op = true) (hn : notFirst (KK P) C (.ref C') = true) (hf : findIn (KK P) (.ref C) (cmpInfo op).2.1 = some (some (.ref f))) (hi : isFn (KK P) (.ref f) = true) (h : (OO P n).call (.glob (.ref f)) [.obj C fs, .obj C' gs] [] = some (.bool t)) : (OO P (n + 1)).cmp op (.obj C fs) (.obj C' gs) = some (.bool t) := by
  have e : (OO P (n + 1)).cmp op (.obj C fs) (.obj C' gs) = objCmp (KK P) (OO P n) op C fs C' gs := by
    cases op <;> first | rfl | cases ho
  rw [e]
  unfold objCmp tryD
  rw [if_pos hn, hf]
  dsimp only
  rw [if_pos hi]
  erw [h]
  rfl
section
variable {n : Nat} {a b c a' b' c' : Int} {p q p' q' : List Str}
theorem tup_ver : (OO P (n + 4)).call (.glob (.type "tuple")) [verD a b c p q] [] = some (.tup [.int a, .int b, .int c, stD p, stD q]) := by kernel_rfl
theorem cmp5 : (OO P (n + 1)).cmp .NotEq (.tup [.int a, .int b, .int c, stD p, stD q]) (.tup [.int a', .int b', .int c', stD p', stD q']) = some (.bool (!eqV a b c p q a' b' c' p' q')) := by
  show rcL (rcN (objCmp (KK P) (OO P n)) 7) .NotEq 5 5 [.int a, .int b, .int c, stD p, stD q] [.int a', .int b', .int c', stD p', stD q'] = _
  unfold eqV
  simp only [rcL, eqOf_int, eqOf_stD]
  cases a == a' <;> cases b == b' <;> cases c == c' <;> cases p == p' <;> cases q == q' <;> rfl
theorem ne426 : RF P (OO P (n + 5)) 426 [verD a b c p q, verD a' b' c' p' q'] [] = some (.bool (!eqV a b c p q a' b' c' p' q')) := by
  refine run_w (ok426 P) (dd := []) (b := [("self", verD a b c p q), ("other", verD a' b' c' p' q')]) (by kernel_rfl) (by kernel_rfl) (by kernel_rfl) ?_
  refine x_if false ⟨_, a_cls, _, isin457, _, tru_b, rfl⟩ (x_done ?_)
  exact x_ret ⟨_, tup_ver, _, tup_ver, _, cmp5, rfl⟩ rfl
theorem lt433 (hp : p ∈ pres) (hp' : p' ∈ pres) : RF P (OO P (n + 7)) 433 [verD a b c p q, verD a b' c' p' q'] [] = some (.bool (lexB .Lt b c (rank p) b' c' (rank p'))) := by
  refine run_w (ok433 P) (dd := []) (b := [("self", verD a b c p q), ("other", verD a b' c' p' q')]) (by kernel_rfl) (by kernel_rfl) (by kernel_rfl) ?_
  refine x_if false ⟨_, a_cls, _, isin457, _, tru_b, rfl⟩ (x_done ?_)
  exact x_ret ⟨_, a_key, _, a_key, _, cmp_key hp hp' rfl, rfl⟩ rfl
theorem le440 (hp : p ∈ pres) (hp' : p' ∈ pres) : RF P (OO P (n + 7)) 440 [verD a b c p q, verD a b' c' p' q'] [] = some (.bool (lexB .LtE b c (rank p) b' c' (rank p'))) := by
  refine run_w (ok440 P) (dd := []) (b := [("self", verD a b c p q), ("other", verD a b' c' p' q')]) (by kernel_rfl) (by kernel_rfl) (by kernel_rfl) ?_
  refine x_if false ⟨_, a_cls, _, isin457, _, tru_b, rfl⟩ (x_done ?_)
  exact x_ret ⟨_, a_key, _, a_key, _, cmp_key hp hp' rfl, rfl⟩ rfl
theorem gt447 (hp : p ∈ pres) (hp' : p' ∈ pres) : RF P (OO P (n + 7)) 447 [verD a b c p q, verD a b' c' p' q'] [] = some (.bool (lexB .Gt b c (rank p) b' c' (rank p'))) := by
  refine run_w (ok447 P) (dd := []) (b := [("self", verD a b c p q), ("other", verD a b' c' p' q')]) (by kernel_rfl) (by kernel_rfl) (by kernel_rfl) ?_
  refine x_if false ⟨_, a_cls, _, isin457, _, tru_b, rfl⟩ (x_done ?_)
  exact x_ret ⟨_, a_key, _, a_key, _, cmp_key hp hp' rfl, rfl⟩ rfl
theorem ge454 (hp : p ∈ pres) (hp' : p' ∈ pres) : RF P (OO P (n + 7)) 454 [verD a b c p q, verD a b' c' p' q'] [] = some (.bool (lexB .GtE b c (rank p) b' c' (rank p'))) := by
  refine run_w (ok454 P) (dd := []) (b := [("self", verD a b c p q), ("other", verD a b' c' p' q')]) (by kernel_rfl) (by kernel_rfl) (by kernel_rfl) ?_
  refine x_if false ⟨_, a_cls, _, isin457, _, tru_b, rfl⟩ (x_done ?_)
  exact x_ret ⟨_, a_key, _, a_key, _, cmp_key hp hp' rfl, rfl⟩ rfl
/-- versions against versions -/
theorem v_eq (hl : p.length ≤ 900) (hl' : p'.length ≤ 900) (hq : q.length ≤ 900) (hq' : q'.length ≤ 900) : (OO P (n + 4)).cmp .Eq (verD a b c p q) (verD a' b' c' p' q') = some (.bool (eqV a b c p q a' b' c' p' q')) :=
  cmp_obj (f := 419) rfl (by kernel_rfl) (by kernel_rfl) (by kernel_rfl) (call_fn2 (by kernel_rfl) rfl (eq419 hl hl' hq hq'))
theorem v_ne : (OO P (n + 7)).cmp .NotEq (verD a b c p q) (verD a' b' c' p' q') = some (.bool (!eqV a b c p q a' b' c' p' q')) :=
  cmp_obj (f := 426) rfl (by kernel_rfl) (by kernel_rfl) (by kernel_rfl) (call_fn2 (by kernel_rfl) rfl ne426)
theorem v_lt (hp : p ∈ pres) (hp' : p' ∈ pres) : (OO P (n + 9)).cmp .Lt (verD a b c p q) (verD a b' c' p' q') = some (.bool (lexB .Lt b c (rank p) b' c' (rank p'))) :=
  cmp_obj (f := 433) rfl (by kernel_rfl) (by kernel_rfl) (by kernel_rfl) (call_fn2 (by kernel_rfl) rfl (lt433 hp hp'))
theorem v_le (hp : p ∈ pres) (hp' : p' ∈ pres) : (OO P (n + 9)).cmp .LtE (verD a b c p q) (verD a b' c' p' q') = some (.bool (lexB .LtE b c (rank p) b' c' (rank p'))) :=
  cmp_obj (f := 440) rfl (by kernel_rfl) (by kernel_rfl) (by kernel_rfl) (call_fn2 (by kernel_rfl) rfl (le440 hp hp'))
theorem v_gt (hp : p ∈ pres) (hp' : p' ∈ pres) : (OO P (n + 9)).cmp .Gt (verD a b c p q) (verD a b' c' p' q') = some (.bool (lexB .Gt b c (rank p) b' c' (rank p'))) :=
  cmp_obj (f := 447) rfl (by kernel_rfl) (by kernel_rfl) (by kernel_rfl) (call_fn2 (by kernel_rfl) rfl (gt447 hp hp'))
theorem v_ge (hp : p ∈ pres) (hp' : p' ∈ pres) : (OO P (n + 9)).cmp .GtE (verD a b c p q) (verD a b' c' p' q') = some (.bool (lexB .GtE b c (rank p) b' c' (rank p'))) :=
  cmp_obj (f := 454) rfl (by kernel_rfl) (by kernel_rfl) (by kernel_rfl) (call_fn2 (by kernel_rfl) rfl (ge454 hp hp'))
end
end Mine
end
section
open PySem PySem.W PyProof.Rows
set_option maxRecDepth 1000000
set_option maxHeartbeats 1000000
namespace Mine
variable {P : Params}
theorem isCls700 (P : Params) : (fnAt (KK P) 700).isSome = false := by kernel_rfl
noncomputable def isE (s : Str) : Bool := (["==", "!="] : List Str).any (· == s)
noncomputable def rngD (s : Str) (v : D) (r w : Str) : D := .obj 700 [("operator", .str s), ("target", v), ("prerelease_policy", .str r), ("build_policy", .str w)]
theorem notin2 {n : Nat} {s : Str} : (OO P (n + 1)).cmp .NotIn (.str s) (.tup [.str "==", .str "!="]) = some (.bool (!isE s)) := rfl
theorem in2 {n : Nat} {s : Str} : (OO P (n + 1)).cmp .In (.str s) (.list [.str "==", .str "!="]) = some (.bool (isE s)) := rfl
section
variable {n : Nat} {a b c : Int} {p q : List Str} {s r w : Str} {fs : List (Str × D)}
theorem self_eq : (OO P (n + 1)).attr (.self 700 []) "OP_EQ" = some (.str "==") := by kernel_rfl
theorem self_ne : (OO P (n + 1)).attr (.self 700 []) "OP_NEQ" = some (.str "!=") := by kernel_rfl
theorem self_strict {v : D} : (OO P (n + 1)).attr (.self 700 [("operator", .str s), ("target", v), ("prerelease_policy", .str r)]) "BUILD_STRICT" = some (.str "strict") := by kernel_rfl
theorem initR {ks : List (Str × D)} (hl : q.length ≤ 900) (hok : q = [] ∨ isE s = true)
    (h6 : bindL ((F676 P).params.args.map (·.arg)) [.glob .none, .str s, verD a b c p q] ks [.str "natural", .str "implicit"] = some ([("self", .glob .none), ("operator", .str s), ("target", verD a b c p q), ("prerelease_policy", .str r), ("build_policy", .str w)] : List (Str × D)))
    (hks : ks.all (fun y => notGlob y.2) = true) : runInit (KK P) OWN (OO P (n + 1)) 700 [.str s, verD a b c p q] ks = some (rngD s (verD a b c p q) r (if q.isEmpty then w else "strict")) := by
  refine init_w (ok676 P) (dd := [.str "natural", .str "implicit"]) (b := [("self", .glob .none), ("operator", .str s), ("target", verD a b c p q), ("prerelease_policy", .str r), ("build_policy", .str w)]) (by kernel_rfl) (by kernel_rfl) (by kernel_rfl) (by kernel_rfl) rfl h6 ?_ ?_
  · simp only [List.all_cons, List.all_nil, hks]
    kernel_rfl
  refine x_if false (t_and (!q.isEmpty) ⟨_, a_bld, _, tru_stD hl, rfl⟩ ?_) (x_done ?_)
  · cases he : q.isEmpty with
    | true => rfl
    | false =>
      have hs : isE s = true := by rcases hok with rfl | h; cases he; exact h
      exact t_and false ⟨_, self_eq, _, self_ne, _, notin2, false, by rw [hs]; rfl, rfl⟩ rfl
  refine x_self (d := .str s) rfl rfl rfl ?_
  refine x_self (d := verD a b c p q) rfl rfl rfl ?_
  refine x_self (d := .str r) rfl rfl rfl ?_
  refine x_self (d := .str (if q.isEmpty then w else "strict")) rfl rfl (e_if (!q.isEmpty) ⟨_, a_bld, _, tru_stD hl, rfl⟩ ?_) ?_
  · cases he : q.isEmpty with
    | true => rfl
    | false => exact ⟨_, self_strict, rfl⟩
  exact x_nil ⟨rfl, rfl⟩
theorem mkR (hl : q.length ≤ 900) (hok : q = [] ∨ isE s = true) : (OO P (n + 2)).call (.glob (.ref 700)) [.str s, verD a b c p q] [("prerelease_policy", .str r), ("build_policy", .str w)] = some (rngD s (verD a b c p q) r (if q.isEmpty then w else "strict")) :=
  call_cls (isCls700 P) rfl (initR hl hok (by kernel_rfl) rfl)
theorem mkR3 (hl : q.length ≤ 900) (hok : q = [] ∨ isE s = true) : (OO P (n + 2)).call (.glob (.ref 700)) [.str s, verD a b c p q] [("prerelease_policy", .str r)] = some (rngD s (verD a b c p q) r (if q.isEmpty then "implicit" else "strict")) :=
  call_cls (isCls700 P) rfl (initR hl hok (by kernel_rfl) rfl)
end
end Mine
end
section
open PySem PySem.W PyProof.Rows
set_option maxRecDepth 1000000
set_option maxHeartbeats 1000000
namespace Mine
variable {P : Params}
theorem t_andB {c : PC} {n : Nat} {pos : Pos} {R : Bool → Prop} {e : Expr} {r : List Expr} {t : Bool} (h : wT c n e (· = t)) (k1 : t = true → wT c (n + 1) (.BoolOp .And r pos) R) (k0 : t = false → R false) : wT c (n + 1) (.BoolOp .And (e :: r) pos) R := by
  refine t_and t h ?_
  cases t
  · exact k0 rfl
  · exact k1 rfl
section
variable {n : Nat} {s r w : Str} {v : D}
theorem r_op : (OO P (n + 1)).attr (.dat (rngD s v r w)) "operator" = some (.str s) := attr_own (own700 P _ (by decide +kernel)) rfl rfl
theorem r_tgt (h : notGlob v = true) : (OO P (n + 1)).attr (.dat (rngD s v r w)) "target" = some v := attr_own (own700 P _ (by decide +kernel)) rfl h
theorem r_pp : (OO P (n + 1)).attr (.dat (rngD s v r w)) "prerelease_policy" = some (.str r) := attr_own (own700 P _ (by decide +kernel)) rfl rfl
theorem r_bp : (OO P (n + 1)).attr (.dat (rngD s v r w)) "build_policy" = some (.str w) := attr_own (own700 P _ (by decide +kernel)) rfl rfl
theorem r_EQ : (OO P (n + 1)).attr (.dat (rngD s v r w)) "OP_EQ" = some (.str "==") := by kernel_rfl
theorem r_GT : (OO P (n + 1)).attr (.dat (rngD s v r w)) "OP_GT" = some (.str ">") := by kernel_rfl
theorem r_GTE : (OO P (n + 1)).attr (.dat (rngD s v r w)) "OP_GTE" = some (.str ">=") := by kernel_rfl
theorem r_LT : (OO P (n + 1)).attr (.dat (rngD s v r w)) "OP_LT" = some (.str "<") := by kernel_rfl
theorem r_LTE : (OO P (n + 1)).attr (.dat (rngD s v r w)) "OP_LTE" = some (.str "<=") := by kernel_rfl
theorem r_NEQ : (OO P (n + 1)).attr (.dat (rngD s v r w)) "OP_NEQ" = some (.str "!=") := by kernel_rfl
theorem r_ST : (OO P (n + 1)).attr (.dat (rngD s v r w)) "BUILD_STRICT" = some (.str "strict") := by kernel_rfl
theorem r_SP : (OO P (n + 1)).attr (.dat (rngD s v r w)) "PRERELEASE_SAMEPATCH" = some (.str "same-patch") := by kernel_rfl
theorem r_NA : (OO P (n + 1)).attr (.dat (rngD s v r w)) "PRERELEASE_NATURAL" = some (.str "natural") := by kernel_rfl
end
noncomputable def wayS (k : Bool) : Str := if k then "strict" else "implicit"
noncomputable def signs : List Str := ["==", "!=", "<", "<=", ">", ">="]
noncomputable def ownB (a b c : Int) (p : List Str) (b' c' : Int) (p' : List Str) (r : Str) : Bool := !p'.isEmpty && (r == "natural" && (eqV a b' c' [] [] a b c [] [] && p.isEmpty))
noncomputable def strictB (a b c : Int) (p q : List Str) (b' c' : Int) (p' q' : List Str) : Bool := eqV a b c p [] a b' c' p' [] && q' == q
noncomputable def tailB (s r : Str) (k : Bool) (a b c : Int) (p q : List Str) (b' c' : Int) (p' q' : List Str) : Bool :=
  if s == "==" then (if k then strictB a b c p q b' c' p' q' else eqV a b' c' p' q' a b c p q)
  else if s == ">" then lexB .Gt b' c' (rank p') b c (rank p)
  else if s == ">=" then lexB .GtE b' c' (rank p') b c (rank p)
  else if s == "<" then (if ownB a b c p b' c' p' r then false else lexB .Lt b' c' (rank p') b c (rank p))
  else if s == "<=" then lexB .LtE b' c' (rank p') b c (rank p)
  else if k then !strictB a b c p q b' c' p' q' else if ownB a b c p b' c' p' r then false else !eqV a b' c' p' q' a b c p q
section
variable {n : Nat} {a b c b' c' : Int} {p q p' q' : List Str} {s r : Str} {k : Bool} {t : Bool} {ρ : PE} {v0 : D}
/-- the local names after the first two statements -/
noncomputable def Shape (ρ : PE) (v g : D) : Prop := ρ = ⟨[("version", v), ("self", g)], .none⟩ ∨ (∃ t, ρ = ⟨[("same_patch", .bool t), ("version", v), ("self", g)], .none⟩) ∨ (∃ v0, ρ = ⟨[("version", v), ("version", v0), ("self", g)], .none⟩) ∨ ∃ t v0, ρ = ⟨[("same_patch", .bool t), ("version", v), ("version", v0), ("self", g)], .none⟩
theorem tail_eq (hs : s = "==") (hp : p ∈ pres) (hp' : p' ∈ pres) (hl : p.length ≤ 900) (hl' : p'.length ≤ 900) (hq : q.length ≤ 900) (hq' : q'.length ≤ 900) (hρ : Shape ρ (verD a b' c' p' q') (rngD s (verD a b c p q) r (wayS k))) :
    wX (ctx (OO P (n + 15)) (F683 P) 683) 58 ρ ((bodyOf (F683 P)).drop 2) (endQ (.bool (tailB s r k a b c p q b' c' p' q'))) := by
  have tr : ∀ b, (OO P (n + 15)).tru (.bool b) = some b := fun _ => rfl
  have h0 : ([] : List Str).length ≤ 900 := by decide
  subst hs
  rcases hρ with rfl | ⟨t, rfl⟩ | ⟨v0, rfl⟩ | ⟨t, v0, rfl⟩
  all_goals
    refine x_if true ⟨_, r_op, _, r_EQ, _, cmp_str, _, tru_b, rfl⟩ ?_
    refine x_if k ⟨_, r_bp, _, r_ST, _, cmp_str, _, tru_b, by cases k <;> rfl⟩ ?_
    cases k
    · exact x_done (x_ret ⟨_, r_tgt rfl, _, v_eq hl' hl hq' hq, rfl⟩ rfl)
    · refine x_ret (d := .bool (strictB a b c p q b' c' p' q')) ?_ rfl
      refine e_andB tr ⟨_, r_tgt rfl, _, m_tr hp, _, m_tr hp', _, v_eq hl hl' h0 h0, rfl⟩ (fun h => ?_) (fun h => by unfold strictB; rw [h]; rfl)
      exact ⟨_, a_bld, _, r_tgt rfl, _, a_bld, _, cmp_stD, by unfold strictB; rw [h]; rfl⟩
theorem tail_gt (hs : s = ">") (hp : p ∈ pres) (hp' : p' ∈ pres) (hρ : Shape ρ (verD a b' c' p' q') (rngD s (verD a b c p q) r (wayS k))) :
    wX (ctx (OO P (n + 15)) (F683 P) 683) 58 ρ ((bodyOf (F683 P)).drop 2) (endQ (.bool (tailB s r k a b c p q b' c' p' q'))) := by
  subst hs
  rcases hρ with rfl | ⟨t, rfl⟩ | ⟨v0, rfl⟩ | ⟨t, v0, rfl⟩
  all_goals
    refine x_if false ⟨_, r_op, _, r_EQ, _, cmp_str, _, tru_b, rfl⟩ ?_
    refine x_if true ⟨_, r_op, _, r_GT, _, cmp_str, _, tru_b, rfl⟩ ?_
    exact x_ret ⟨_, r_tgt rfl, _, v_gt hp' hp, rfl⟩ rfl
theorem tail_ge (hs : s = ">=") (hp : p ∈ pres) (hp' : p' ∈ pres) (hρ : Shape ρ (verD a b' c' p' q') (rngD s (verD a b c p q) r (wayS k))) :
    wX (ctx (OO P (n + 15)) (F683 P) 683) 58 ρ ((bodyOf (F683 P)).drop 2) (endQ (.bool (tailB s r k a b c p q b' c' p' q'))) := by
  subst hs
  rcases hρ with rfl | ⟨t, rfl⟩ | ⟨v0, rfl⟩ | ⟨t, v0, rfl⟩
  all_goals
    refine x_if false ⟨_, r_op, _, r_EQ, _, cmp_str, _, tru_b, rfl⟩ ?_
    refine x_if false ⟨_, r_op, _, r_GT, _, cmp_str, _, tru_b, rfl⟩ ?_
    refine x_if true ⟨_, r_op, _, r_GTE, _, cmp_str, _, tru_b, rfl⟩ ?_
    exact x_ret ⟨_, r_tgt rfl, _, v_ge hp' hp, rfl⟩ rfl
theorem tail_lt (hs : s = "<") (hp : p ∈ pres) (hp' : p' ∈ pres) (hl : p.length ≤ 900) (hl' : p'.length ≤ 900) (hρ : Shape ρ (verD a b' c' p' q') (rngD s (verD a b c p q) r (wayS k))) :
    wX (ctx (OO P (n + 15)) (F683 P) 683) 58 ρ ((bodyOf (F683 P)).drop 2) (endQ (.bool (tailB s r k a b c p q b' c' p' q'))) := by
  have h0 : ([] : List Str).length ≤ 900 := by decide
  subst hs
  rcases hρ with rfl | ⟨t, rfl⟩ | ⟨v0, rfl⟩ | ⟨t, v0, rfl⟩
  all_goals
    refine x_if false ⟨_, r_op, _, r_EQ, _, cmp_str, _, tru_b, rfl⟩ ?_
    refine x_if false ⟨_, r_op, _, r_GT, _, cmp_str, _, tru_b, rfl⟩ ?_
    refine x_if false ⟨_, r_op, _, r_GTE, _, cmp_str, _, tru_b, rfl⟩ ?_
    refine x_if true ⟨_, r_op, _, r_LT, _, cmp_str, _, tru_b, rfl⟩ ?_
    refine x_if (ownB a b c p b' c' p' r) ?_ ?_
    · refine t_andB ⟨_, a_pre, _, tru_stD hl', rfl⟩ (fun h1 => ?_) (fun h1 => by unfold ownB; rw [h1]; rfl)
      refine t_andB ⟨_, r_pp, _, r_NA, _, cmp_str, _, tru_b, rfl⟩ (fun h2 => ?_) (fun h2 => by unfold ownB; rw [h1, h2]; rfl)
      refine t_andB ⟨_, m_tr0, _, r_tgt rfl, _, m_tr0, _, v_eq h0 h0 h0 h0, _, tru_b, rfl⟩ (fun h3 => ?_) (fun h3 => by unfold ownB; rw [h1, h2, h3]; rfl)
      refine t_andB (t := p.isEmpty) ⟨_, r_tgt rfl, _, a_pre, _, tru_stD hl, Bool.not_not _⟩ (fun h4 => ?_) (fun h4 => by unfold ownB; rw [h1, h2, h3, h4]; rfl)
      exact t_nil (by unfold ownB; rw [h1, h2, h3, h4]; rfl)
    cases ho : ownB a b c p b' c' p' r
    · refine x_done (x_ret ⟨_, r_tgt rfl, _, v_lt hp' hp, rfl⟩ ?_)
      show D.bool _ = D.bool (if ownB a b c p b' c' p' r = true then false else _)
      rw [ho]; rfl
    · refine x_ret (d := .bool false) rfl ?_
      show D.bool _ = D.bool (if ownB a b c p b' c' p' r = true then false else _)
      rw [ho]; rfl
theorem tail_le (hs : s = "<=") (hp : p ∈ pres) (hp' : p' ∈ pres) (hρ : Shape ρ (verD a b' c' p' q') (rngD s (verD a b c p q) r (wayS k))) :
    wX (ctx (OO P (n + 15)) (F683 P) 683) 58 ρ ((bodyOf (F683 P)).drop 2) (endQ (.bool (tailB s r k a b c p q b' c' p' q'))) := by
  subst hs
  rcases hρ with rfl | ⟨t, rfl⟩ | ⟨v0, rfl⟩ | ⟨t, v0, rfl⟩
  all_goals
    refine x_if false ⟨_, r_op, _, r_EQ, _, cmp_str, _, tru_b, rfl⟩ ?_
    refine x_if false ⟨_, r_op, _, r_GT, _, cmp_str, _, tru_b, rfl⟩ ?_
    refine x_if false ⟨_, r_op, _, r_GTE, _, cmp_str, _, tru_b, rfl⟩ ?_
    refine x_if false ⟨_, r_op, _, r_LT, _, cmp_str, _, tru_b, rfl⟩ ?_
    refine x_if true ⟨_, r_op, _, r_LTE, _, cmp_str, _, tru_b, rfl⟩ ?_
    exact x_ret ⟨_, r_tgt rfl, _, v_le hp' hp, rfl⟩ rfl
theorem tail_ne (hs : s = "!=") (hp : p ∈ pres) (hp' : p' ∈ pres) (hl : p.length ≤ 900) (hl' : p'.length ≤ 900) (hq : q.length ≤ 900) (hq' : q'.length ≤ 900) (hρ : Shape ρ (verD a b' c' p' q') (rngD s (verD a b c p q) r (wayS k))) :
    wX (ctx (OO P (n + 15)) (F683 P) 683) 58 ρ ((bodyOf (F683 P)).drop 2) (endQ (.bool (tailB s r k a b c p q b' c' p' q'))) := by
  have tr : ∀ b, (OO P (n + 15)).tru (.bool b) = some b := fun _ => rfl
  have h0 : ([] : List Str).length ≤ 900 := by decide
  subst hs
  rcases hρ with rfl | ⟨t, rfl⟩ | ⟨v0, rfl⟩ | ⟨t, v0, rfl⟩
  all_goals
    refine x_if false ⟨_, r_op, _, r_EQ, _, cmp_str, _, tru_b, rfl⟩ ?_
    refine x_if false ⟨_, r_op, _, r_GT, _, cmp_str, _, tru_b, rfl⟩ ?_
    refine x_if false ⟨_, r_op, _, r_GTE, _, cmp_str, _, tru_b, rfl⟩ ?_
    refine x_if false ⟨_, r_op, _, r_LT, _, cmp_str, _, tru_b, rfl⟩ ?_
    refine x_if false ⟨_, r_op, _, r_LTE, _, cmp_str, _, tru_b, rfl⟩ ?_
    refine x_assert ⟨_, r_op, _, r_NEQ, _, cmp_str, _, tru_b, rfl⟩ ?_
    refine x_if k ⟨_, r_bp, _, r_ST, _, cmp_str, _, tru_b, by cases k <;> rfl⟩ ?_
    cases k
    · refine x_done ?_
      refine x_if (ownB a b c p b' c' p' r) ?_ ?_
      · refine t_andB ⟨_, a_pre, _, tru_stD hl', rfl⟩ (fun h1 => ?_) (fun h1 => by unfold ownB; rw [h1]; rfl)
        refine t_andB ⟨_, r_pp, _, r_NA, _, cmp_str, _, tru_b, rfl⟩ (fun h2 => ?_) (fun h2 => by unfold ownB; rw [h1, h2]; rfl)
        refine t_andB ⟨_, m_tr0, _, r_tgt rfl, _, m_tr0, _, v_eq h0 h0 h0 h0, _, tru_b, rfl⟩ (fun h3 => ?_) (fun h3 => by unfold ownB; rw [h1, h2, h3]; rfl)
        refine t_andB (t := p.isEmpty) ⟨_, r_tgt rfl, _, a_pre, _, tru_stD hl, Bool.not_not _⟩ (fun h4 => ?_) (fun h4 => by unfold ownB; rw [h1, h2, h3, h4]; rfl)
        exact t_nil (by unfold ownB; rw [h1, h2, h3, h4]; rfl)
      cases ho : ownB a b c p b' c' p' r
      · refine x_done (x_ret ⟨_, r_tgt rfl, _, v_ne, rfl⟩ ?_)
        show D.bool _ = D.bool (if ownB a b c p b' c' p' r = true then false else _)
        rw [ho]; rfl
      · refine x_ret (d := .bool false) rfl ?_
        show D.bool _ = D.bool (if ownB a b c p b' c' p' r = true then false else _)
        rw [ho]; rfl
    · refine x_ret (d := .bool (!strictB a b c p q b' c' p' q')) (e_not (a := .bool (strictB a b c p q b' c' p' q')) ?_ tru_b rfl) rfl
      refine e_andB tr ⟨_, r_tgt rfl, _, m_tr hp, _, m_tr hp', _, v_eq hl hl' h0 h0, rfl⟩ (fun h => ?_) (fun h => by unfold strictB; rw [h]; rfl)
      exact ⟨_, a_bld, _, r_tgt rfl, _, a_bld, _, cmp_stD, by unfold strictB; rw [h]; rfl⟩
end
end Mine
end
section
open PySem PySem.W PyProof.Rows
set_option maxRecDepth 1000000
set_option maxHeartbeats 1000000
namespace Mine
variable {P : Params}
noncomputable def outB (a b c : Int) (b' c' : Int) (p' : List Str) (r : Str) : Bool := !p'.isEmpty && (r == "same-patch" && !eqV a b c [] [] a b' c' [] [])
noncomputable def matchB (s r : Str) (k : Bool) (a b c : Int) (p q : List Str) (b' c' : Int) (p' q' : List Str) : Bool :=
  if outB a b c b' c' p' r then false else tailB s r k a b c p q b' c' p' (if k then q' else [])
section
variable {n : Nat} {a b c b' c' : Int} {p q p' q' : List Str} {s r : Str} {k : Bool} {t : Bool} {ρ : PE} {v0 : D}
theorem tail683 (hs : s ∈ signs) (hp : p ∈ pres) (hp' : p' ∈ pres) (hq : q ∈ blds) (hq' : q' ∈ blds) (hρ : Shape ρ (verD a b' c' p' q') (rngD s (verD a b c p q) r (wayS k))) :
    wX (ctx (OO P (n + 15)) (F683 P) 683) 58 ρ ((bodyOf (F683 P)).drop 2) (endQ (.bool (tailB s r k a b c p q b' c' p' q'))) := by
  have hl := (pres_ids p hp).2
  have hl' := (pres_ids p' hp').2
  have hlq := (blds_ids q hq).2
  have hlq' := (blds_ids q' hq').2
  unfold signs at hs
  simp only [List.mem_cons, List.not_mem_nil, or_false] at hs
  rcases hs with h | h | h | h | h | h
  · exact tail_eq h hp hp' hl hl' hlq hlq' hρ
  · exact tail_ne h hp hp' hl hl' hlq hlq' hρ
  · exact tail_lt h hp hp' hl hl' hρ
  · exact tail_le h hp hp' hρ
  · exact tail_gt h hp hp' hρ
  · exact tail_ge h hp hp' hρ
theorem mid683 (hs : s ∈ signs) (hp : p ∈ pres) (hp' : p' ∈ pres) (hq : q ∈ blds) (hq' : q' ∈ blds) (hρ : ρ = ⟨[("version", verD a b' c' p' q'), ("self", rngD s (verD a b c p q) r (wayS k))], .none⟩ ∨ ∃ v0, ρ = ⟨[("version", verD a b' c' p' q'), ("version", v0), ("self", rngD s (verD a b c p q) r (wayS k))], .none⟩) :
    wX (ctx (OO P (n + 15)) (F683 P) 683) 59 ρ ((bodyOf (F683 P)).drop 1) (endQ (.bool (if outB a b c b' c' p' r then false else tailB s r k a b c p q b' c' p' q'))) := by
  have hl' := (pres_ids p' hp').2
  have h0 : ([] : List Str).length ≤ 900 := by decide
  rcases hρ with rfl | ⟨v0, rfl⟩
  · refine x_if (!p'.isEmpty) ⟨_, a_pre, _, tru_stD hl', rfl⟩ ?_
    cases hpe : p'.isEmpty
    · refine x_asg (d := .bool (eqV a b c [] [] a b' c' [] [])) rfl ⟨_, r_tgt rfl, _, m_tr0, _, m_tr0, _, v_eq h0 h0 h0 h0, rfl⟩ ?_
      refine x_if (r == "same-patch" && !eqV a b c [] [] a b' c' [] []) ?_ ?_
      · refine t_andB ⟨_, r_pp, _, r_SP, _, cmp_str, _, tru_b, rfl⟩ (fun h1 => ?_) (fun h1 => by rw [h1]; rfl)
        exact t_and (!eqV a b c [] [] a b' c' [] []) ⟨_, tru_b, rfl⟩ (by rw [h1]; cases eqV a b c [] [] a b' c' [] [] <;> rfl)
      have ho : outB a b c b' c' p' r = (r == "same-patch" && !eqV a b c [] [] a b' c' [] []) := by unfold outB; rw [hpe]; rfl
      rw [← ho]
      cases outB a b c b' c' p' r
      · exact x_done (x_done (tail683 hs hp hp' hq hq' (.inr (.inl ⟨_, rfl⟩))))
      · exact x_ret (d := .bool false) rfl rfl
    · have ho : outB a b c b' c' p' r = false := by unfold outB; rw [hpe]; rfl
      rw [ho]
      exact x_done (tail683 hs hp hp' hq hq' (.inl rfl))
  · refine x_if (!p'.isEmpty) ⟨_, a_pre, _, tru_stD hl', rfl⟩ ?_
    cases hpe : p'.isEmpty
    · refine x_asg (d := .bool (eqV a b c [] [] a b' c' [] [])) rfl ⟨_, r_tgt rfl, _, m_tr0, _, m_tr0, _, v_eq h0 h0 h0 h0, rfl⟩ ?_
      refine x_if (r == "same-patch" && !eqV a b c [] [] a b' c' [] []) ?_ ?_
      · refine t_andB ⟨_, r_pp, _, r_SP, _, cmp_str, _, tru_b, rfl⟩ (fun h1 => ?_) (fun h1 => by rw [h1]; rfl)
        exact t_and (!eqV a b c [] [] a b' c' [] []) ⟨_, tru_b, rfl⟩ (by rw [h1]; cases eqV a b c [] [] a b' c' [] [] <;> rfl)
      have ho : outB a b c b' c' p' r = (r == "same-patch" && !eqV a b c [] [] a b' c' [] []) := by unfold outB; rw [hpe]; rfl
      rw [← ho]
      cases outB a b c b' c' p' r
      · exact x_done (x_done (tail683 hs hp hp' hq hq' (.inr (.inr (.inr ⟨_, _, rfl⟩)))))
      · exact x_ret (d := .bool false) rfl rfl
    · have ho : outB a b c b' c' p' r = false := by unfold outB; rw [hpe]; rfl
      rw [ho]
      exact x_done (tail683 hs hp hp' hq hq' (.inr (.inr (.inl ⟨_, rfl⟩))))
theorem match683 (hs : s ∈ signs) (hp : p ∈ pres) (hp' : p' ∈ pres) (hq : q ∈ blds) (hq' : q' ∈ blds) : RF P (OO P (n + 15)) 683 [rngD s (verD a b c p q) r (wayS k), verD a b' c' p' q'] [] = some (.bool (matchB s r k a b c p q b' c' p' q')) := by
  refine run_w (ok683 P) (dd := []) (b := [("self", rngD s (verD a b c p q) r (wayS k)), ("version", verD a b' c' p' q')]) (by kernel_rfl) (by kernel_rfl) (by kernel_rfl) ?_
  refine x_if (!k) ⟨_, r_bp, _, r_ST, _, cmp_strN, _, tru_b, by cases k <;> rfl⟩ ?_
  cases k
  · refine x_asg (d := verD a b' c' p' []) rfl ⟨_, m_tr hp', rfl⟩ (x_done ?_)
    exact mid683 (k := false) hs hp hp' hq nil_blds (.inr ⟨_, rfl⟩)
  · exact x_done (mid683 (k := true) hs hp hp' hq hq' (.inl rfl))
theorem m_match (hs : s ∈ signs) (hp : p ∈ pres) (hp' : p' ∈ pres) (hq : q ∈ blds) (hq' : q' ∈ blds) : (OO P (n + 16)).meth (.dat (rngD s (verD a b c p q) r (wayS k))) "match" [verD a b' c' p' q'] [] = some (.bool (matchB s r k a b c p q b' c' p' q')) := meth_obj (by kernel_rfl) (match683 hs hp hp' hq hq')
/-- ranges against ranges -/
theorem isin700 {v : D} {w s' r' w' : Str} {v' : D} : (OO P (n + 1)).call (.glob (.builtin "isinstance")) [rngD s v r w, .glob (.ref 700)] [] = some (.bool true) := by kernel_rfl
theorem r_cls {v : D} {w : Str} : (OO P (n + 1)).attr (.dat (rngD s v r w)) "__class__" = some (.glob (.ref 700)) := by kernel_rfl
end
section
variable {n : Nat} {a b c b' c' : Int} {p q p' q' : List Str} {s r w s' r' w' : Str}
noncomputable def eqR (s r : Str) (a b c : Int) (p q : List Str) (s' r' : Str) (b' c' : Int) (p' q' : List Str) : Bool := s == s' && (eqV a b c p q a b' c' p' q' && r == r')
theorem eq690 (hl : p.length ≤ 900) (hl' : p'.length ≤ 900) (hq : q.length ≤ 900) (hq' : q'.length ≤ 900) : RF P (OO P (n + 5)) 690 [rngD s (verD a b c p q) r w, rngD s' (verD a b' c' p' q') r' w'] [] = some (.bool (eqR s r a b c p q s' r' b' c' p' q')) := by
  refine run_w (ok690 P) (dd := []) (b := [("self", rngD s (verD a b c p q) r w), ("other", rngD s' (verD a b' c' p' q') r' w')]) (by kernel_rfl) (by kernel_rfl) (by kernel_rfl) ?_
  have tr : ∀ b, (OO P (n + 5)).tru (.bool b) = some b := fun _ => rfl
  refine x_ret (d := .bool (eqR s r a b c p q s' r' b' c' p' q')) ?_ rfl
  refine e_andB (t := true) tr ⟨_, r_cls, _, isin700 (v' := .none) (s' := s) (r' := r) (w' := w), rfl⟩ (fun _ => ?_) (fun h => by cases h)
  refine e_andB tr ⟨_, r_op, _, r_op, _, cmp_str, rfl⟩ (fun h1 => ?_) (fun h1 => by unfold eqR; rw [h1]; rfl)
  refine e_andB tr ⟨_, r_tgt rfl, _, r_tgt rfl, _, v_eq hl hl' hq hq', rfl⟩ (fun h2 => ?_) (fun h2 => by unfold eqR; rw [h1, h2]; rfl)
  exact ⟨_, r_pp, _, r_pp, _, cmp_str, by unfold eqR; rw [h1, h2]; rfl⟩
theorem R_eq (hl : p.length ≤ 900) (hl' : p'.length ≤ 900) (hq : q.length ≤ 900) (hq' : q'.length ≤ 900) : (OO P (n + 7)).cmp .Eq (rngD s (verD a b c p q) r w) (rngD s' (verD a b' c' p' q') r' w') = some (.bool (eqR s r a b c p q s' r' b' c' p' q')) :=
  cmp_obj (f := 690) rfl (by kernel_rfl) (by kernel_rfl) (by kernel_rfl) (call_fn2 (by kernel_rfl) rfl (eq690 hl hl' hq hq'))
theorem ne503 (hl : p.length ≤ 900) (hl' : p'.length ≤ 900) (hq : q.length ≤ 900) (hq' : q'.length ≤ 900) : RF P (OO P (n + 7)) 503 [rngD s (verD a b c p q) r w, rngD s' (verD a b' c' p' q') r' w'] [] = some (.bool (!eqR s r a b c p q s' r' b' c' p' q')) := by
  refine run_w (ok503 P) (dd := []) (b := [("self", rngD s (verD a b c p q) r w), ("other", rngD s' (verD a b' c' p' q') r' w')]) (by kernel_rfl) (by kernel_rfl) (by kernel_rfl) ?_
  exact x_ret ⟨_, R_eq hl hl' hq hq', _, tru_b, rfl⟩ rfl
theorem R_ne (hl : p.length ≤ 900) (hl' : p'.length ≤ 900) (hq : q.length ≤ 900) (hq' : q'.length ≤ 900) : (OO P (n + 9)).cmp .NotEq (rngD s (verD a b c p q) r w) (rngD s' (verD a b' c' p' q') r' w') = some (.bool (!eqR s r a b c p q s' r' b' c' p' q')) :=
  cmp_obj (f := 503) rfl (by kernel_rfl) (by kernel_rfl) (by kernel_rfl) (call_fn2 (by kernel_rfl) rfl (ne503 hl hl' hq hq'))
end
end Mine
end
section
open PySem PySem.W PyProof.Rows
set_option maxRecDepth 1000000
set_option maxHeartbeats 1000000
namespace Mine
variable {P : Params}
noncomputable def partsD (a b c : Int) (p q : List Str) : D := .list [.tup [.int a, .int b, .int c], stD p, stD q]
noncomputable def KL : List (Str × D) := [("a", .tup [.int 1, .int 0, .str "a"]), ("1", .tup [.int 0, .int 1, .str ""]), ("b", .tup [.int 1, .int 0, .str "b"]), ("2", .tup [.int 0, .int 2, .str ""])]
noncomputable def tailK (p : List Str) : List D := .int (if p.isEmpty then 1 else 0) :: p.map fun x => (KL.lookup x).getD .none
noncomputable def lkD (a b c : Int) (p : List Str) : D := .list (.int a :: .int b :: .int c :: tailK p)
theorem key756 {n : Nat} {a b c : Int} {q : List Str} : ∀ p ∈ pres, RF P (OO P (n + 3)) 756 [partsD a b c p q] [] = some (lkD a b c p) := by
  unfold pres
  simp only [List.forall_mem_cons, List.not_mem_nil, false_implies, implies_true, and_true]
  refine ⟨?_, ?_, ?_, ?_, ?_, ?_, ?_⟩ <;> kernel_rfl
theorem lkGt {n : Nat} : (pres.all fun p => pres.all fun p' => isB (rcL (rcN (objCmp (KK P) (OO P n)) 7) .Gt (3 + (tailK p).length) (3 + (tailK p').length) (tailK p) (tailK p')) == some (if rank p == rank p' then sz0 .Gt else intB .Gt (rank p) (rank p'))) = true := by kernel_rfl
theorem lkLt {n : Nat} : (pres.all fun p => pres.all fun p' => isB (rcL (rcN (objCmp (KK P) (OO P n)) 7) .Lt (3 + (tailK p).length) (3 + (tailK p').length) (tailK p) (tailK p')) == some (if rank p == rank p' then sz0 .Lt else intB .Lt (rank p) (rank p'))) = true := by kernel_rfl
section
variable {n : Nat} {a b c b' c' : Int} {p q p' q' : List Str} {s r : Str} {k : Bool}
theorem lk_gt (hp : p ∈ pres) (hp' : p' ∈ pres) : (OO P (n + 1)).cmp .Gt (lkD a b c p) (lkD a b' c' p') = some (.bool (lexB .Gt b c (rank p) b' c' (rank p'))) := by
  show rcL (rcN (objCmp (KK P) (OO P n)) 7) .Gt _ _ (.int a :: .int b :: .int c :: tailK p) (.int a :: .int b' :: .int c' :: tailK p') = _
  refine rcL_lex rfl ?_
  have := isB_some (pair_of (lkGt (P := P) (n := n)) hp hp')
  rw [Nat.add_comm 3, Nat.add_comm 3] at this
  exact this
theorem lk_lt (hp : p ∈ pres) (hp' : p' ∈ pres) : (OO P (n + 1)).cmp .Lt (lkD a b c p) (lkD a b' c' p') = some (.bool (lexB .Lt b c (rank p) b' c' (rank p'))) := by
  show rcL (rcN (objCmp (KK P) (OO P n)) 7) .Lt _ _ (.int a :: .int b :: .int c :: tailK p) (.int a :: .int b' :: .int c' :: tailK p') = _
  refine rcL_lex rfl ?_
  have := isB_some (pair_of (lkLt (P := P) (n := n)) hp hp')
  rw [Nat.add_comm 3, Nat.add_comm 3] at this
  exact this
theorem call_key (hp : p ∈ pres) : (OO P (n + 4)).call (.glob (.ref 756)) [partsD a b c p q] [] = some (lkD a b c p) := call_fn2 (by kernel_rfl) rfl (key756 p hp)
theorem ne_nil : (OO P (n + 1)).cmp .NotEq (stD p) (.tup []) = some (.bool (!p.isEmpty)) := by
  show rcL (rcN (objCmp (KK P) (OO P n)) 7) .NotEq (p.map D.str).length 0 (p.map D.str) [] = _
  cases p with
  | nil => rfl
  | cons x l =>
    show some (D.bool (sizesB .NotEq (D.str x :: l.map D.str).length 0)) = _
    unfold sizesB
    simp
theorem eq_nil : (OO P (n + 1)).cmp .Eq (stD p) (.tup []) = some (.bool p.isEmpty) := by
  have := cmp_stD (P := P) (n := n) (p := p) (q := [])
  cases p <;> exact this
theorem eq3 : (OO P (n + 1)).cmp .Eq (.tup [.int a, .int b, .int c]) (.tup [.int a, .int b', .int c']) = some (.bool (b == b' && c == c')) := by
  show rcL (rcN (objCmp (KK P) (OO P n)) 7) .Eq 3 3 [.int a, .int b, .int c] [.int a, .int b', .int c'] = _
  simp only [rcL, eqOf_int, beq_self_eq_true]
  cases b == b' <;> cases c == c' <;> rfl
noncomputable def ownL (b c : Int) (p : List Str) (b' c' : Int) (p' : List Str) (r : Str) : Bool := !p'.isEmpty && (r == "natural" && ((b' == b && c' == c) && p.isEmpty))
noncomputable def outL (b c : Int) (b' c' : Int) (p' : List Str) (r : Str) : Bool := !p'.isEmpty && (r == "same-patch" && !(b' == b && c' == c))
noncomputable def holdsB (s r : Str) (k : Bool) (b c : Int) (p q : List Str) (b' c' : Int) (p' q' : List Str) : Bool :=
  let up := lexB .Gt b' c' (rank p') b c (rank p)
  let down := lexB .Lt b' c' (rank p') b c (rank p)
  let alike := !up && !down
  let own := ownL b c p b' c' p' r
  if outL b c b' c' p' r then false
  else if s == "==" then alike && (!k || q' == q)
  else if s == "!=" then (if k then !(alike && q' == q) else !own && !alike)
  else if s == "<" then down && !own
  else if s == "<=" then down || alike
  else if s == ">" then up else up || alike
end
end Mine
end
section
open PySem PySem.W PyProof.Rows
set_option maxRecDepth 1000000
set_option maxHeartbeats 1000000
namespace Mine
variable {P : Params}
section
variable {n : Nat} {a b c b' c' : Int} {p q p' q' : List Str} {s r : Str} {k : Bool}
theorem cmp_strs {x y : Str} {t : Bool} (h : (x == y) = t) : (OO P (n + 1)).cmp .Eq (.str x) (.str y) = some (.bool t) := by subst h; rfl
theorem holds763 (hs : s ∈ signs) (hp : p ∈ pres) (hp' : p' ∈ pres) : RF P (OO P (n + 5)) 763 [.str s, .str r, .bool k, partsD a b c p q, partsD a b' c' p' q'] [] = some (.bool (holdsB s r k b c p q b' c' p' q')) := by
  refine run_w (ok763 P) (dd := []) (b := [("sign", .str s), ("rule", .str r), ("strict", .bool k), ("target", partsD a b c p q), ("other", partsD a b' c' p' q')]) (by kernel_rfl) (by kernel_rfl) (by kernel_rfl) ?_
  have tr : ∀ b, (OO P (n + 5)).tru (.bool b) = some b := fun _ => rfl
  refine x_asg (d := .bool (b' == b && c' == c)) rfl ⟨_, rfl, _, rfl, _, eq3, rfl⟩ ?_
  refine x_if (outL b c b' c' p' r) ?_ ?_
  · refine t_andB ⟨_, rfl, _, ne_nil, _, tru_b, rfl⟩ (fun h1 => ?_) (fun h1 => by unfold outL; rw [h1]; rfl)
    refine t_andB (t := r == "same-patch") ⟨_, cmp_str, _, tru_b, rfl⟩ (fun h2 => ?_) (fun h2 => by unfold outL; rw [h1, h2]; rfl)
    refine t_andB (t := !(b' == b && c' == c)) ⟨_, tru_b, rfl⟩ (fun h3 => ?_) (fun h3 => by unfold outL; rw [h1, h2, h3]; rfl)
    exact t_nil (by unfold outL; rw [h1, h2, h3]; rfl)
  cases ho : outL b c b' c' p' r
  case true =>
    refine x_ret (d := .bool false) rfl ?_
    show D.bool false = D.bool (if outL b c b' c' p' r = true then _ else _)
    rw [ho]; rfl
  refine x_done ?_
  refine x_asg (d := .bool (lexB .Gt b' c' (rank p') b c (rank p))) rfl ⟨_, call_key hp', _, call_key hp, _, lk_gt hp' hp, rfl⟩ ?_
  refine x_asg (d := .bool (lexB .Lt b' c' (rank p') b c (rank p))) rfl ⟨_, call_key hp', _, call_key hp, _, lk_lt hp' hp, rfl⟩ ?_
  refine x_asg (d := .bool (!lexB .Gt b' c' (rank p') b c (rank p) && !lexB .Lt b' c' (rank p') b c (rank p))) rfl ?_ ?_
  · exact e_andB tr ⟨_, tru_b, rfl⟩ (fun h => ⟨_, tru_b, by rw [h]; rfl⟩) (fun h => by rw [h]; rfl)
  refine x_asg (d := .bool (ownL b c p b' c' p' r)) rfl ?_ ?_
  · refine e_andB tr ⟨_, rfl, _, ne_nil, rfl⟩ (fun h1 => ?_) (fun h1 => by unfold ownL; rw [h1]; rfl)
    refine e_andB (t := r == "natural") tr ⟨_, cmp_str, rfl⟩ (fun h2 => ?_) (fun h2 => by unfold ownL; rw [h1, h2]; rfl)
    refine e_andB (t := b' == b && c' == c) tr rfl (fun h3 => ?_) (fun h3 => by unfold ownL; rw [h1, h2, h3]; rfl)
    exact ⟨_, rfl, _, eq_nil, by unfold ownL; rw [h1, h2, h3]; rfl⟩
  unfold holdsB
  rw [ho]
  generalize lexB .Gt b' c' (rank p') b c (rank p) = up
  generalize lexB .Lt b' c' (rank p') b c (rank p) = down
  generalize ownL b c p b' c' p' r = own
  unfold signs at hs
  simp only [List.mem_cons, List.not_mem_nil, or_false] at hs
  rcases hs with rfl | rfl | rfl | rfl | rfl | rfl
  · refine x_if true ⟨_, cmp_str, _, tru_b, rfl⟩ ?_
    refine x_ret (d := .bool ((!up && !down) && (!k || q' == q))) ?_ rfl
    refine e_andB (t := !up && !down) tr rfl (fun h => ?_) (fun h => by rw [h]; rfl)
    rw [h]
    cases k
    · exact e_one (e_orT (d := .bool true) ⟨_, tru_b, rfl⟩ tru_b rfl)
    · exact e_one (e_or (d := .bool false) ⟨_, tru_b, rfl⟩ tru_b ⟨_, rfl, _, rfl, _, cmp_stD, rfl⟩)
  · refine x_if false ⟨_, cmp_str, _, tru_b, rfl⟩ (x_done ?_)
    refine x_if true ⟨_, cmp_str, _, tru_b, rfl⟩ ?_
    refine x_ret (d := .bool (if k then !((!up && !down) && q' == q) else !own && !(!up && !down))) ?_ rfl
    refine e_if k ⟨_, tru_b, rfl⟩ ?_
    cases k
    · refine e_andB (t := !own) tr ⟨_, tru_b, rfl⟩ (fun h => ?_) (fun h => by rw [h]; rfl)
      exact ⟨_, tru_b, by rw [h]; rfl⟩
    · refine e_not (a := .bool ((!up && !down) && q' == q)) ?_ tru_b rfl
      refine e_andB (t := !up && !down) tr rfl (fun h => ?_) (fun h => by rw [h]; rfl)
      exact ⟨_, rfl, _, rfl, _, cmp_stD, by rw [h]; rfl⟩
  · refine x_if false ⟨_, cmp_str, _, tru_b, rfl⟩ (x_done ?_)
    refine x_if false ⟨_, cmp_str, _, tru_b, rfl⟩ (x_done ?_)
    refine x_if true ⟨_, cmp_str, _, tru_b, rfl⟩ ?_
    refine x_ret (d := .bool (down && !own)) ?_ rfl
    exact e_andB (t := down) tr rfl (fun h => ⟨_, tru_b, by rw [h]; rfl⟩) (fun h => by rw [h]; rfl)
  · refine x_if false ⟨_, cmp_str, _, tru_b, rfl⟩ (x_done ?_)
    refine x_if false ⟨_, cmp_str, _, tru_b, rfl⟩ (x_done ?_)
    refine x_if false ⟨_, cmp_str, _, tru_b, rfl⟩ (x_done ?_)
    refine x_if true ⟨_, cmp_str, _, tru_b, rfl⟩ ?_
    refine x_ret (d := .bool (down || (!up && !down))) ?_ rfl
    cases down
    · exact e_or (d := .bool false) rfl tru_b (e_one rfl)
    · exact e_orT (d := .bool true) rfl tru_b rfl
  · refine x_if false ⟨_, cmp_str, _, tru_b, rfl⟩ (x_done ?_)
    refine x_if false ⟨_, cmp_str, _, tru_b, rfl⟩ (x_done ?_)
    refine x_if false ⟨_, cmp_str, _, tru_b, rfl⟩ (x_done ?_)
    refine x_if false ⟨_, cmp_str, _, tru_b, rfl⟩ (x_done ?_)
    exact x_ret (d := .bool up) (e_if true ⟨_, cmp_str, _, tru_b, rfl⟩ rfl) rfl
  · refine x_if false ⟨_, cmp_str, _, tru_b, rfl⟩ (x_done ?_)
    refine x_if false ⟨_, cmp_str, _, tru_b, rfl⟩ (x_done ?_)
    refine x_if false ⟨_, cmp_str, _, tru_b, rfl⟩ (x_done ?_)
    refine x_if false ⟨_, cmp_str, _, tru_b, rfl⟩ (x_done ?_)
    refine x_ret (d := .bool (up || (!up && !down))) (e_if false ⟨_, cmp_str, _, tru_b, rfl⟩ ?_) rfl
    cases up
    · exact e_or (d := .bool false) rfl tru_b (e_one rfl)
    · exact e_orT (d := .bool true) rfl tru_b rfl
end
end Mine
end
section
open PySem PySem.W PyProof.Rows
set_option maxRecDepth 1000000
set_option maxHeartbeats 1000000
namespace Mine
theorem rank_eq {p p' : List Str} (hp : p ∈ pres) (hp' : p' ∈ pres) : (rank p == rank p') = (p == p') := by
  have h : (pres.all fun p => pres.all fun p' => (rank p == rank p') == (p == p')) = true := by decide +kernel
  exact eq_of_beq (pair_of h hp hp')
theorem lex_all (b c r b' c' r' : Int) : ∃ G : Bool, lexB .Gt b c r b' c' r' = (!(b == b' && c == c' && r == r') && G) ∧ lexB .Lt b c r b' c' r' = (!(b == b' && c == c' && r == r') && !G) ∧ lexB .GtE b c r b' c' r' = ((b == b' && c == c' && r == r') || G) ∧ lexB .LtE b c r b' c' r' = ((b == b' && c == c' && r == r') || !G) := by
  refine ⟨lexB .Gt b c r b' c' r', ?_⟩
  unfold lexB intB intCmp sz0 sizesB
  simp only [Option.getD_some]
  by_cases hb : b = b'
  · subst hb
    by_cases hc : c = c'
    · subst hc
      by_cases hr : r = r'
      · subst hr
        simp
      · have e : (r == r') = false := by rw [beq_eq_false_iff_ne]; exact hr
        rw [e]
        simp only [beq_self_eq_true, if_true, Bool.false_eq_true, if_false, Bool.and_false, Bool.not_false, Bool.true_and, Bool.false_or, true_and]
        refine ⟨?_, ?_, ?_⟩ <;> (rw [Bool.eq_iff_iff]; simp only [decide_eq_true_eq, Bool.not_eq_true', decide_eq_false_iff_not]; omega)
    · have e : (c == c') = false := by rw [beq_eq_false_iff_ne]; exact hc
      rw [e]
      simp only [beq_self_eq_true, if_true, Bool.false_eq_true, if_false, Bool.and_false, Bool.false_and, Bool.not_false, Bool.true_and, Bool.false_or, true_and]
      refine ⟨?_, ?_, ?_⟩ <;> (rw [Bool.eq_iff_iff]; simp only [decide_eq_true_eq, Bool.not_eq_true', decide_eq_false_iff_not]; omega)
  · have e : (b == b') = false := by rw [beq_eq_false_iff_ne]; exact hb
    rw [e]
    simp only [Bool.false_eq_true, if_false, Bool.false_and, Bool.not_false, Bool.true_and, Bool.false_or, true_and]
    refine ⟨?_, ?_, ?_⟩ <;> (rw [Bool.eq_iff_iff]; simp only [decide_eq_true_eq, Bool.not_eq_true', decide_eq_false_iff_not]; omega)
theorem eqV_same (a b c : Int) (p q : List Str) (b' c' : Int) (p' q' : List Str) : eqV a b c p q a b' c' p' q' = (b == b' && (c == c' && (p == p' && q == q'))) := by unfold eqV; rw [beq_self_eq_true, Bool.true_and]
theorem beq_sw {α : Type} [BEq α] [LawfulBEq α] (x y : α) : (x == y) = (y == x) := by
  rw [Bool.eq_iff_iff, beq_iff_eq, beq_iff_eq]; exact eq_comm
theorem match_holds {a b c b' c' : Int} {p q p' q' : List Str} {s r : Str} {k : Bool} (hs : s ∈ signs) (hp : p ∈ pres) (hp' : p' ∈ pres) (hk : k = false → q = []) : matchB s r k a b c p q b' c' p' q' = holdsB s r k b c p q b' c' p' q' := by
  obtain ⟨G, e1, e2, e3, e4⟩ := lex_all b' c' (rank p') b c (rank p)
  unfold matchB tailB holdsB outB outL ownB ownL strictB
  rw [e1, e2, e3, e4, rank_eq hp' hp]
  clear e1 e2 e3 e4
  simp only [eqV_same]
  rw [beq_sw b b', beq_sw c c', beq_sw p p']
  generalize (b' == b) = B
  generalize (c' == c) = C
  generalize (p' == p) = E
  generalize (r == "same-patch") = SP
  generalize (r == "natural") = NA
  generalize p'.isEmpty = X
  generalize p.isEmpty = Y
  have hn : (([] : List Str) == []) = true := rfl
  rw [hn]
  unfold signs at hs
  simp only [List.mem_cons, List.not_mem_nil, or_false] at hs
  cases k with
  | true =>
    simp only [if_true]
    generalize (q' == q) = F
    rcases hs with rfl | rfl | rfl | rfl | rfl | rfl <;> revert B C E SP NA X Y F G <;> decide +kernel
  | false =>
    have := hk rfl
    subst this
    simp only [Bool.false_eq_true, if_false, hn]
    generalize (q' == []) = F
    rcases hs with rfl | rfl | rfl | rfl | rfl | rfl <;> revert B C E SP NA X Y F G <;> decide +kernel
end Mine
end
section
open PySem PySem.W PyProof.Rows
set_option maxRecDepth 100000
namespace Mine.Rx
theorem tw_app {f : Nat → Bool} {r : List Nat} (hr : ∀ d r', r = d :: r' → f d = false) : ∀ {l : List Nat}, (∀ d ∈ l, f d = true) → (l ++ r).takeWhile f = l ∧ (l ++ r).dropWhile f = r
  | [], _ => by
    cases r with
    | nil => exact ⟨rfl, rfl⟩
    | cons d r' =>
      have e := hr d r' rfl
      constructor
      · rw [List.nil_append, List.takeWhile_cons, e]; rfl
      · rw [List.nil_append, List.dropWhile_cons, e]; rfl
  | x :: l, h => by
    have hx := h x (.head _)
    have ih := tw_app hr (l := l) fun d hd => h d (.tail _ hd)
    constructor
    · rw [List.cons_append, List.takeWhile_cons, hx, if_pos rfl, ih.1]
    · rw [List.cons_append, List.dropWhile_cons, hx, if_pos rfl, ih.2]
theorem stop_q {q : Option (List Nat)} : ∀ d r', tail 43 q = d :: r' → d = 43 := by
  intro d r' e
  cases q with
  | none => cases e
  | some l => cases e; rfl
theorem stop_pq {p q : Option (List Nat)} : ∀ d r', tail 45 p ++ tail 43 q = d :: r' → isDec d = false := by
  intro d r' e
  cases p with
  | none =>
    have := stop_q d r' e
    subst this
    exact dec43
  | some l => cases e; exact dec45
theorem cut_q {q : Option (List Nat)} (vq : ∀ l, q = some l → (∀ d ∈ l, isChr d = true) ∧ 1 ≤ l.length) : cutTail 43 (tail 43 q) = (q, []) := by
  cases q with
  | none => rfl
  | some l =>
    have h := tw_app (f := isChr) (r := []) (fun d r' e => by cases e) (vq l rfl).1
    rw [List.append_nil] at h
    show (some (l.takeWhile isChr), l.dropWhile isChr) = _
    rw [h.1, h.2]
theorem cut_p {p q : Option (List Nat)} (vp : ∀ l, p = some l → (∀ d ∈ l, isChr d = true) ∧ 1 ≤ l.length) : cutTail 45 (tail 45 p ++ tail 43 q) = (p, tail 43 q) := by
  cases p with
  | none =>
    cases q with
    | none => rfl
    | some l => rfl
  | some l =>
    have h := tw_app (f := isChr) (r := tail 43 q) (fun d r' e => by rw [stop_q d r' e]; exact chr43) (vp l rfl).1
    show (some ((l ++ tail 43 q).takeWhile isChr), (l ++ tail 43 q).dropWhile isChr) = _
    rw [h.1, h.2]
theorem lenOk_of {p : Option (List Nat)} (vp : ∀ l, p = some l → (∀ d ∈ l, isChr d = true) ∧ 1 ≤ l.length) : lenOk p = true := by
  cases p with
  | none => rfl
  | some l =>
    have := (vp l rfl).2
    cases l with
    | nil => cases this
    | cons => rfl
theorem notEmpty {l : List Nat} (h : 1 ≤ l.length) : l.isEmpty = false := by
  cases l with
  | nil => cases h
  | cons => rfl
theorem verCut_render {a b c : List Nat} {p q : Option (List Nat)} (v : Valid a b c p q) : verCut (render a b c p q) = some (a, b, c, p, q) := by
  have h46 : ∀ {r : List Nat}, ∀ d r', 46 :: r = d :: r' → isDec d = false := by
    intro r d r' e
    cases e
    exact dec46
  unfold verCut render
  have h1 := tw_app (f := isDec) (r := 46 :: (b ++ 46 :: (c ++ (tail 45 p ++ tail 43 q)))) h46 v.va
  have h2 := tw_app (f := isDec) (r := 46 :: (c ++ (tail 45 p ++ tail 43 q))) h46 v.vb
  have h3 := tw_app (f := isDec) (r := tail 45 p ++ tail 43 q) stop_pq v.vc
  simp only [h1.2, h2.2]
  rw [h1.1, h2.1, h3.1, h3.2, cut_p v.vp]
  simp only [cut_q v.vq]
  rw [notEmpty v.la, notEmpty v.lb, notEmpty v.lc, lenOk_of v.vp, lenOk_of v.vq]
  rfl
end Mine.Rx
namespace Mine
open Rx
theorem grp_mid {x : Str} {pre mid post : List Nat} (h : x.cps.toList = pre ++ (mid ++ post)) : grp x (pre.length : Nat) ((pre.length + mid.length : Nat) : Int) = .str ⟨mid.toArray⟩ := by
  unfold grp
  have h1 : ¬ (((pre.length : Nat) : Int) < 0) := by omega
  have h2 : ¬ (((pre.length + mid.length : Nat) : Int) < 0) := by omega
  rw [decide_eq_false h1, decide_eq_false h2]
  show D.str ⟨x.cps.extract pre.length (pre.length + mid.length)⟩ = _
  have e : x.cps.extract pre.length (pre.length + mid.length) = mid.toArray := by
    apply Array.toList_inj.mp
    rw [Array.toList_extract, h]
    simp [List.extract]
  rw [e]
noncomputable def optD : Option (List Nat) → D
  | none => .none
  | some l => .str ⟨l.toArray⟩
theorem groups_render {x : Str} {a b c : List Nat} {p q : Option (List Nat)} (h : x.cps.toList = render a b c p q) : groupsX x (spans a b c p q) = .tup [.str ⟨a.toArray⟩, .str ⟨b.toArray⟩, .str ⟨c.toArray⟩, optD p, optD q] := by
  unfold render at h
  have g1 := grp_mid (x := x) (pre := []) (mid := a) (by rw [h]; rfl)
  have g2 := grp_mid (x := x) (pre := a ++ [46]) (mid := b) (post := 46 :: (c ++ (tail 45 p ++ tail 43 q))) (by rw [h]; simp)
  have g3 := grp_mid (x := x) (pre := a ++ [46] ++ b ++ [46]) (mid := c) (post := tail 45 p ++ tail 43 q) (by rw [h]; simp)
  have g4 : ∀ l, p = some l → grp x ((a ++ [46] ++ b ++ [46] ++ c ++ [45]).length : Nat) (((a ++ [46] ++ b ++ [46] ++ c ++ [45]).length + l.length : Nat) : Int) = .str ⟨l.toArray⟩ := by
    rintro l rfl
    exact grp_mid (post := tail 43 q) (by rw [h]; simp [tail])
  have g5 : ∀ l, q = some l → grp x ((a ++ [46] ++ b ++ [46] ++ c ++ tail 45 p ++ [43]).length : Nat) (((a ++ [46] ++ b ++ [46] ++ c ++ tail 45 p ++ [43]).length + l.length : Nat) : Int) = .str ⟨l.toArray⟩ := by
    rintro l rfl
    exact grp_mid (post := []) (by rw [h]; simp [tail])
  have e : groupsX x (spans a b c p q) = .tup [grp x 0 (a.length : Nat), grp x (a.length + 1 : Nat) (a.length + 1 + b.length : Nat), grp x (a.length + 1 + b.length + 1 : Nat) (a.length + 1 + b.length + 1 + c.length : Nat),
      grp x ((span (a.length + 1 + b.length + 1 + c.length) p).getD 0 (-1)) ((span (a.length + 1 + b.length + 1 + c.length) p).getD 1 (-1)),
      grp x ((span (skip (a.length + 1 + b.length + 1 + c.length) p) q).getD 0 (-1)) ((span (skip (a.length + 1 + b.length + 1 + c.length) p) q).getD 1 (-1))] := by
    have hl : (spans a b c p q).length = 12 := by cases p <;> cases q <;> rfl
    unfold groupsX
    rw [hl]
    show D.tup ((List.range 5).map _) = _
    cases p <;> cases q <;> rfl
  rw [e]
  simp only [List.length_append, List.length_cons, List.length_nil, Nat.zero_add] at g1 g2 g3 g4 g5
  have n0 : grp x (-1) (-1) = .none := rfl
  have g1' : grp x 0 (a.length : Nat) = .str ⟨a.toArray⟩ := g1
  rw [g1', g2, g3]
  have e4 : grp x ((span (a.length + 1 + b.length + 1 + c.length) p).getD 0 (-1)) ((span (a.length + 1 + b.length + 1 + c.length) p).getD 1 (-1)) = optD p := by
    cases p with
    | none => exact n0
    | some l => exact g4 l rfl
  have e5 : grp x ((span (skip (a.length + 1 + b.length + 1 + c.length) p) q).getD 0 (-1)) ((span (skip (a.length + 1 + b.length + 1 + c.length) p) q).getD 1 (-1)) = optD q := by
    cases q with
    | none => exact n0
    | some l =>
      have := g5 l rfl
      cases p with
      | none => exact this
      | some l' =>
        have e : a.length + 1 + b.length + 1 + c.length + (tail 45 (some l')).length + 1 = a.length + 1 + b.length + 1 + c.length + 1 + l'.length + 1 := by simp only [tail, List.length_cons]; omega
        rw [e] at this
        exact this
  rw [e4, e5]
end Mine
end
section
open PySem PySem.W PyProof.Rows
set_option maxRecDepth 100000
namespace Mine
open Rx
/-- a number's text -/
noncomputable def aS (a : Int) : Str := Str.ofString (toString a)
noncomputable def digs (a : Int) : List Nat := (aS a).cps.toList
theorem dec_digit {c : Nat} (h : 48 ≤ c ∧ c ≤ 57) : isDec c = true := by
  have : ∀ i, i < 10 → isDec (48 + i) = true := by decide +kernel
  have e := this (c - 48) (by omega)
  rwa [show 48 + (c - 48) = c by omega] at e
theorem digs_eq {a : Int} (h0 : 0 ≤ a) : digs a = (Nat.toDigits 10 a.toNat).map Char.toNat := by
  obtain ⟨m, rfl⟩ := Int.eq_ofNat_of_zero_le h0
  exact KIN.signs_num m
theorem digs_all {a : Int} (h0 : 0 ≤ a) : ∀ d ∈ digs a, 48 ≤ d ∧ d ≤ 57 := by
  intro c hc
  rw [digs_eq h0] at hc
  obtain ⟨ch, hch, e⟩ := List.mem_map.mp hc
  have r := digit_range (Nat.isDigit_of_mem_toDigits (by decide) (by decide) hch)
  rw [← e]
  exact r
theorem toDigits_head : ∀ m, 0 < m → ∃ c r, Nat.toDigits 10 m = c :: r ∧ c ≠ '0' := by
  intro m
  induction m using Nat.strongRecOn with
  | _ m ih =>
    intro hm
    by_cases h : m < 10
    · refine ⟨Nat.digitChar m, [], Nat.toDigits_of_lt_base h, ?_⟩
      have : ∀ i, i < 10 → 0 < i → Nat.digitChar i ≠ '0' := by decide
      exact this m h hm
    · obtain ⟨c, r, e, hc⟩ := ih (m / 10) (by omega) (by omega)
      have t : Nat.toDigits 10 (m / 10) ++ Nat.toDigits 10 (m % 10) = Nat.toDigits 10 (10 * (m / 10) + m % 10) := Nat.toDigits_append_toDigits (by decide) (by omega) (by omega)
      rw [Nat.div_add_mod, e] at t
      exact ⟨c, _, t.symm, hc⟩
theorem digs_head {a : Int} (h0 : 0 < a) : ∃ d r, digs a = d :: r ∧ d ≠ 48 := by
  obtain ⟨c, r, e, hc⟩ := toDigits_head a.toNat (by omega)
  refine ⟨c.toNat, r.map Char.toNat, by rw [digs_eq (by omega), e]; rfl, ?_⟩
  intro h
  apply hc
  have : Char.ofNat c.toNat = c := Char.ofNat_toNat c
  rw [h] at this
  exact this.symm
theorem digs_zero : digs 0 = [48] := by decide +kernel
theorem digs_pos {a : Int} (h0 : 0 ≤ a) : 1 ≤ (digs a).length := by
  rcases Int.lt_or_eq_of_le h0 with h | h
  · obtain ⟨d, r, e, _⟩ := digs_head h
    rw [e]; simp
  · rw [← h, digs_zero]; decide
theorem aS_len {a : Int} (h0 : 0 ≤ a) (h1 : a < 10 ^ 31) : (aS a).length ≤ 31 := toString_length_le h0 (by decide) h1
theorem aS_int {a : Int} (h0 : 0 ≤ a) (h1 : a < 10 ^ 31) : PySem.intText? (aS a) = some a := by
  have hl := aS_len h0 h1
  have hne : (aS a).cps.toList ≠ [] := by
    intro e
    have := digs_pos h0
    unfold digs at this
    rw [e] at this
    cases this
  have e := intText_digits (x := aS a) (digs_all h0) hne (Nat.le_trans hl (by decide))
  rw [e]
  have h2 : (aS a).cps.toList = (Nat.toDigits 10 a.toNat).map Char.toNat := digs_eq h0
  rw [h2, KIN.val_back]
  congr 1
  omega
theorem aS_back (a : Int) : (⟨(digs a).toArray⟩ : Str) = aS a := by
  unfold digs
  rw [Array.toArray_toList]
theorem aS_len' (a : Int) : (aS a).length = (digs a).length := by
  unfold digs Str.length
  rw [Array.length_toList]
end Mine
end
section
open PySem PySem.W PyProof.Rows
set_option maxRecDepth 100000
namespace Mine
open Rx
noncomputable def joinS (p : List Str) : Str := Txt.join "." p
noncomputable def preT (c : Str) (p : List Str) : Str := if p.isEmpty then Str.empty else c ++ joinS p
/-- a version's text -/
noncomputable def textS (a b c : Int) (p q : List Str) : Str := aS a ++ "." ++ aS b ++ "." ++ aS c ++ preT "-" p ++ preT "+" q
noncomputable def optL (p : List Str) : Option (List Nat) := if p.isEmpty then none else some (joinS p).cps.toList
theorem join3 (x y z : Str) : Txt.join "." [x, y, z] = x ++ "." ++ y ++ "." ++ z := by
  refine (StrLaws.glued_eq_join "." [x, y, z]).trans ?_
  show x ++ "." ++ (y ++ "." ++ z) = _
  rw [← Str.append_assoc, ← Str.append_assoc]
theorem list_app (x y : Str) : (x ++ y).cps.toList = x.cps.toList ++ y.cps.toList := by rw [Str.cps_append, Array.toList_append]
theorem preT_list {c : Str} {k : Nat} {p : List Str} (hc : c.cps.toList = [k]) : (preT c p).cps.toList = tail k (optL p) := by
  unfold preT optL
  cases p.isEmpty with
  | true => rfl
  | false =>
    show (c ++ joinS p).cps.toList = k :: _
    rw [list_app, hc]
    rfl
theorem text_render (a b c : Int) (p q : List Str) : (textS a b c p q).cps.toList = render (digs a) (digs b) (digs c) (optL p) (optL q) := by
  unfold textS render digs
  simp only [list_app, preT_list (show (("-" : Str)).cps.toList = [45] from rfl), preT_list (show (("+" : Str)).cps.toList = [43] from rfl)]
  have e : (("." : Str)).cps.toList = [46] := rfl
  rw [e]
  simp only [List.append_assoc, List.cons_append, List.nil_append]
end Mine
end
section
open PySem PySem.W PyProof.Rows
set_option maxRecDepth 1000000
set_option maxHeartbeats 1000000
namespace Mine
variable {P : Params}
theorem cat {n : Nat} {x y : Str} (h : x.length + y.length ≤ 3000) : (OO P (n + 1)).bin .Add (.str x) (.str y) = some (.str (x ++ y)) := bin_of (if_pos (Nat.le_trans h (by decide)))
theorem join_pre {n : Nat} : ∀ p ∈ pres, (OO P (n + 1)).meth (.dat (.str ".")) "join" [stD p] [] = some (.str (joinS p)) := by
  unfold pres
  simp only [List.forall_mem_cons, List.not_mem_nil, false_implies, implies_true, and_true]
  refine ⟨?_, ?_, ?_, ?_, ?_, ?_, ?_⟩ <;> kernel_rfl
theorem join_bld {n : Nat} : ∀ p ∈ blds, (OO P (n + 1)).meth (.dat (.str ".")) "join" [stD p] [] = some (.str (joinS p)) := by
  unfold blds
  simp only [List.forall_mem_cons, List.not_mem_nil, false_implies, implies_true, and_true]
  refine ⟨?_, ?_, ?_, ?_, ?_, ?_, ?_, ?_, ?_, ?_, ?_, ?_, ?_, ?_⟩ <;> kernel_rfl
theorem pre_len : ∀ p ∈ pres, (joinS p).length ≤ 10 ∧ (preT "-" p).length ≤ 11 := by decide +kernel
theorem bld_len : ∀ p ∈ blds, (joinS p).length ≤ 10 ∧ (preT "+" p).length ≤ 11 := by decide +kernel
/-- a number of at most thirty figures -/
noncomputable def Small (a : Int) : Prop := 0 ≤ a ∧ a < 10 ^ 31
theorem Small.len {a : Int} (h : Small a) : (aS a).length ≤ 31 := aS_len h.1 h.2
theorem dotL : ((".") : Str).length = 1 := rfl
theorem join_num {n : Nat} {a b c : Int} (ha : Small a) (hb : Small b) (hc : Small c) : (OO P (n + 1)).meth (.dat (.str ".")) "join" [.list [.str (aS a), .str (aS b), .str (aS c)]] [] = some (.str (aS a ++ "." ++ aS b ++ "." ++ aS c)) := by
  have la := ha.len
  have lb := hb.len
  have lc := hc.len
  show (if ((".") : Str).length ≤ 64 ∧ ([aS a, aS b, aS c].map fun y => y.length).sum + [aS a, aS b, aS c].length * 64 ≤ 16777216 ∧ (Txt.join "." [aS a, aS b, aS c]).length ≤ sizeLine then some (D.str (Txt.join "." [aS a, aS b, aS c])) else none) = _
  rw [join3]
  refine if_pos ⟨by decide, ?_, ?_⟩
  · simp only [List.map_cons, List.map_nil, List.sum_cons, List.sum_nil, List.length_cons, List.length_nil]
    omega
  · simp only [Str.length_append, dotL]
    exact Nat.le_trans (m := 200) (by omega) (by decide)
theorem texts3 {n : Nat} {a b c : Int} (ha : Small a) (hb : Small b) (hc : Small c) : (OO P (n + 1)).textsOf (.tup [.int a, .int b, .int c]) = some (.list [.str (aS a), .str (aS b), .str (aS c)]) := by
  show (if ([D.int a, .int b, .int c]).length ≤ 1000 then (txts [.int a, .int b, .int c]).map D.list else none) = _
  refine (if_pos (show 3 ≤ 1000 by decide)).trans ?_
  have ha' : 0 ≤ a ∧ a < 10 ^ 31 := ha
  have hb' : 0 ≤ b ∧ b < 10 ^ 31 := hb
  have hc' : 0 ≤ c ∧ c < 10 ^ 31 := hc
  simp only [txts]
  rw [if_pos ha', if_pos hb', if_pos hc']
  rfl
section
variable {n : Nat} {a b c b' c' : Int} {p q p' q' : List Str} {s r : Str} {k : Bool}
theorem text742 (ha : Small a) (hb : Small b) (hc : Small c) (hp : p ∈ pres) (hq : q ∈ blds) : RF P (OO P (n + 2)) 742 [partsD a b c p q] [] = some (.str (textS a b c p q)) := by
  have la := ha.len
  have lb := hb.len
  have lc := hc.len
  have lp := pre_len p hp
  have lq := bld_len q hq
  have l1 : (("-") : Str).length = 1 := rfl
  have l2 : (("+") : Str).length = 1 := rfl
  refine run_w (ok742 P) (dd := []) (b := [("parts", partsD a b c p q)]) (by kernel_rfl) (by kernel_rfl) (by kernel_rfl) ?_
  refine x_asg (d := .str (aS a ++ "." ++ aS b ++ "." ++ aS c)) rfl ⟨_, rfl, _, texts3 ha hb hc, _, join_num ha hb hc, rfl⟩ ?_
  refine x_if (!p.isEmpty) ⟨_, rfl, _, ne_nil, _, tru_b, rfl⟩ ?_
  cases hpe : p.isEmpty
  · have e1 : preT "-" p = "-" ++ joinS p := by unfold preT; rw [hpe]; rfl
    refine x_asg (d := .str (aS a ++ "." ++ aS b ++ "." ++ aS c ++ "-" ++ joinS p)) rfl ?_ (x_done ?_)
    · have c1 : (aS a ++ "." ++ aS b ++ "." ++ aS c).length + (("-") : Str).length ≤ 3000 := by simp only [Str.length_append, dotL, l1]; omega
      have c2 : (aS a ++ "." ++ aS b ++ "." ++ aS c ++ "-").length + (joinS p).length ≤ 3000 := by simp only [Str.length_append, dotL, l1]; omega
      exact ⟨_, cat c1, _, rfl, _, join_pre p hp, _, cat c2, rfl⟩
    refine x_if (!q.isEmpty) ⟨_, rfl, _, ne_nil, _, tru_b, rfl⟩ ?_
    cases hqe : q.isEmpty
    · have e2 : preT "+" q = "+" ++ joinS q := by unfold preT; rw [hqe]; rfl
      refine x_asg (d := .str (aS a ++ "." ++ aS b ++ "." ++ aS c ++ "-" ++ joinS p ++ "+" ++ joinS q)) rfl ?_ (x_done ?_)
      · have c1 : (aS a ++ "." ++ aS b ++ "." ++ aS c ++ "-" ++ joinS p).length + (("+") : Str).length ≤ 3000 := by simp only [Str.length_append, dotL, l1, l2]; omega
        have c2 : (aS a ++ "." ++ aS b ++ "." ++ aS c ++ "-" ++ joinS p ++ "+").length + (joinS q).length ≤ 3000 := by simp only [Str.length_append, dotL, l1, l2]; omega
        exact ⟨_, cat c1, _, rfl, _, join_bld q hq, _, cat c2, rfl⟩
      refine x_ret rfl ?_
      show D.str _ = D.str _
      unfold textS
      rw [e1, e2]
      simp only [Str.append_assoc]
    · have e2 : preT "+" q = Str.empty := by unfold preT; rw [hqe]; rfl
      refine x_done (x_ret rfl ?_)
      show D.str _ = D.str _
      unfold textS
      rw [e1, e2]
      simp only [Str.append_assoc, Str.append_empty]
  · have e1 : preT "-" p = Str.empty := by unfold preT; rw [hpe]; rfl
    refine x_done ?_
    refine x_if (!q.isEmpty) ⟨_, rfl, _, ne_nil, _, tru_b, rfl⟩ ?_
    cases hqe : q.isEmpty
    · have e2 : preT "+" q = "+" ++ joinS q := by unfold preT; rw [hqe]; rfl
      refine x_asg (d := .str (aS a ++ "." ++ aS b ++ "." ++ aS c ++ "+" ++ joinS q)) rfl ?_ (x_done ?_)
      · have c1 : (aS a ++ "." ++ aS b ++ "." ++ aS c).length + (("+") : Str).length ≤ 3000 := by simp only [Str.length_append, dotL, l2]; omega
        have c2 : (aS a ++ "." ++ aS b ++ "." ++ aS c ++ "+").length + (joinS q).length ≤ 3000 := by simp only [Str.length_append, dotL, l2]; omega
        exact ⟨_, cat c1, _, rfl, _, join_bld q hq, _, cat c2, rfl⟩
      refine x_ret rfl ?_
      show D.str _ = D.str _
      unfold textS
      rw [e1, e2]
      simp only [Str.append_assoc, Str.empty_append]
    · have e2 : preT "+" q = Str.empty := by unfold preT; rw [hqe]; rfl
      refine x_done (x_ret rfl ?_)
      show D.str _ = D.str _
      unfold textS
      rw [e1, e2]
      simp only [Str.append_assoc, Str.append_empty]
end
end Mine
end
section
open PySem PySem.W PyProof.Rows
set_option maxRecDepth 1000000
set_option maxHeartbeats 1000000
namespace Mine
variable {P : Params}
section
variable {n : Nat} {a b c b' c' : Int} {p q p' q' : List Str} {s r w : Str} {k : Bool}
theorem fmt1 (ha : Small a) : (OO P (n + 1)).bin .Mod (.str "%d") (.int a) = some (.str (aS a)) := by
  show (match binD .Mod (.str "%d") (.int a) with | some d => some d | none => binX (KK P) (OO P n) .Mod (.str "%d") (.int a)) = _
  exact if_pos ⟨rfl, ha⟩
theorem fmt2 {x : Str} (hx : x.length ≤ 1000) (h0 : 0 ≤ b) (h1 : b < 10 ^ 10) : (OO P (n + 1)).bin .Mod (.str "%s.%d") (.tup [.str x, .int b]) = some (.str (x ++ "." ++ aS b)) := by
  show (match binD .Mod (.str "%s.%d") (.tup [.str x, .int b]) with | some d => some d | none => binX (KK P) (OO P n) .Mod (.str "%s.%d") (.tup [.str x, .int b])) = _
  exact if_pos ⟨rfl, hx, h0, h1⟩
theorem fm_str {x : Str} (hx : x.length ≤ 1000) : (OO P (n + 1)).fmtS (.str x) = some x := if_pos hx
theorem fm_obj {C f : Addr} {fs : List (Str × D)} {y : Str} (h1 : findIn (KK P) (.ref C) "__str__" = some (some (.ref f))) (h2 : isFn (KK P) (.ref f) = true) (h3 : (OO P n).call (.glob (.ref f)) [.obj C fs] [] = some (.str y)) (hl : y.length ≤ 1000) : (OO P (n + 1)).fmtS (.obj C fs) = some y := by
  show fmtX (KK P) (OO P n) (.obj C fs) = _
  simp only [fmtX, h1, h2, if_true, h3]
  exact if_pos hl
theorem call_str {C f : Addr} {fs : List (Str × D)} {y : Str} (h1 : findIn (KK P) (.ref C) "__str__" = some (some (.ref f))) (h2 : isFn (KK P) (.ref f) = true) (h3 : (OO P n).call (.glob (.ref f)) [.obj C fs] [] = some (.str y)) : (OO P (n + 1)).call (.glob (.type "str")) [.obj C fs] [] = some (.str y) := by
  show callU (KK P) OWN (theX (KK P) OWN) (OO P n) (.glob (.type "str")) [.obj C fs] [] = _
  have hx : (theX (KK P) OWN).call (OO P n) (.glob (.type "str")) [.obj C fs] [] = some (.str y) := by
    show callX (KK P) (OO P n) (.glob (.type "str")) [.obj C fs] [] = _
    simp only [callX, if_true, h1, h2, h3]
  unfold callU
  rw [hx]
noncomputable def Tiny (a : Int) : Prop := 0 ≤ a ∧ a < 10 ^ 10
theorem Tiny.small {a : Int} (h : Tiny a) : Small a := ⟨h.1, Int.lt_trans h.2 (by decide)⟩
theorem str389 (ha : Small a) (hb : Tiny b) (hc : Tiny c) (hp : p ∈ pres) (hq : q ∈ blds) : RF P (OO P (n + 2)) 389 [verD a b c p q] [] = some (.str (textS a b c p q)) := by
  have la := ha.len
  have lb := hb.small.len
  have lc := hc.small.len
  have lp := pre_len p hp
  have lq := bld_len q hq
  have l1 : (("-") : Str).length = 1 := rfl
  have l2 : (("+") : Str).length = 1 := rfl
  have l0 : Str.empty.length = 0 := rfl
  refine run_w (ok389 P) (dd := []) (b := [("self", verD a b c p q)]) (by kernel_rfl) (by kernel_rfl) (by kernel_rfl) ?_
  refine x_asg (d := .str (aS a)) rfl ⟨_, a_major, _, fmt1 ha, rfl⟩ ?_
  refine x_if true ⟨_, a_minor, _, rfl, _, tru_b, rfl⟩ ?_
  have c1 : (aS a).length ≤ 1000 := by omega
  refine x_asg (d := .str (aS a ++ "." ++ aS b)) rfl ⟨_, a_minor, _, fmt2 c1 hb.1 hb.2, rfl⟩ (x_done ?_)
  refine x_if true ⟨_, a_patch, _, rfl, _, tru_b, rfl⟩ ?_
  have c2 : (aS a ++ "." ++ aS b).length ≤ 1000 := by simp only [Str.length_append, dotL]; omega
  refine x_asg (d := .str (aS a ++ "." ++ aS b ++ "." ++ aS c)) rfl ⟨_, a_patch, _, fmt2 c2 hc.1 hc.2, rfl⟩ (x_done ?_)
  have c3 : (aS a ++ "." ++ aS b ++ "." ++ aS c).length ≤ 900 := by simp only [Str.length_append, dotL]; omega
  have e0 : textS a b c p q = aS a ++ "." ++ aS b ++ "." ++ aS c ++ preT "-" p ++ preT "+" q := rfl
  rw [e0]
  generalize aS a ++ "." ++ aS b ++ "." ++ aS c = T at *
  refine x_if (!p.isEmpty) (t_or (!p.isEmpty) ⟨_, a_pre, _, tru_stD (pres_ids p hp).2, rfl⟩ ?_) ?_
  · cases p.isEmpty
    · rfl
    · exact t_or false (t_and false ⟨_, a_part, _, tru_b, rfl⟩ rfl) (t_nil rfl)
  cases hpe : p.isEmpty
  · have e1 : preT "-" p = "-" ++ joinS p := by unfold preT; rw [hpe]; rfl
    refine x_asg (d := .str (T ++ ("-" ++ joinS p))) rfl ?_ (x_done ?_)
    · refine ⟨_, fm_str (by omega), _, a_pre, _, join_pre p hp, _, fm_str (by omega), ?_⟩
      have d1 : (joinS p).length + Str.empty.length ≤ 5000 := by omega
      have d2 : (("-") : Str).length + (joinS p ++ Str.empty).length ≤ 5000 := by simp only [Str.length_append]; omega
      have d3 : T.length + ("-" ++ (joinS p ++ Str.empty)).length ≤ 5000 := by simp only [Str.length_append]; omega
      refine ⟨d1, d2, d3, ?_⟩
      show D.str (T ++ ("-" ++ (joinS p ++ Str.empty))) = _
      rw [Str.append_empty]
    have c4 : (T ++ ("-" ++ joinS p)).length ≤ 1000 := by simp only [Str.length_append]; omega
    rw [e1]
    generalize T ++ ("-" ++ joinS p) = T2 at *
    refine x_if (!q.isEmpty) (t_or (!q.isEmpty) ⟨_, a_bld, _, tru_stD (blds_ids q hq).2, rfl⟩ ?_) ?_
    · cases q.isEmpty
      · rfl
      · exact t_or false (t_and false ⟨_, a_part, _, tru_b, rfl⟩ rfl) (t_nil rfl)
    cases hqe : q.isEmpty
    · have e2 : preT "+" q = "+" ++ joinS q := by unfold preT; rw [hqe]; rfl
      rw [e2]
      refine x_asg (d := .str (T2 ++ ("+" ++ joinS q))) rfl ?_ (x_done ?_)
      · refine ⟨_, fm_str c4, _, a_bld, _, join_bld q hq, _, fm_str (by omega), ?_⟩
        have d1 : (joinS q).length + Str.empty.length ≤ 5000 := by omega
        have d2 : (("+") : Str).length + (joinS q ++ Str.empty).length ≤ 5000 := by simp only [Str.length_append]; omega
        have d3 : T2.length + ("+" ++ (joinS q ++ Str.empty)).length ≤ 5000 := by simp only [Str.length_append]; omega
        refine ⟨d1, d2, d3, ?_⟩
        show D.str (T2 ++ ("+" ++ (joinS q ++ Str.empty))) = _
        rw [Str.append_empty]
      exact x_ret rfl rfl
    · have e2 : preT "+" q = Str.empty := by unfold preT; rw [hqe]; rfl
      rw [e2, Str.append_empty]
      exact x_done (x_ret rfl rfl)
  · have e1 : preT "-" p = Str.empty := by unfold preT; rw [hpe]; rfl
    rw [e1, Str.append_empty]
    refine x_done ?_
    refine x_if (!q.isEmpty) (t_or (!q.isEmpty) ⟨_, a_bld, _, tru_stD (blds_ids q hq).2, rfl⟩ ?_) ?_
    · cases q.isEmpty
      · rfl
      · exact t_or false (t_and false ⟨_, a_part, _, tru_b, rfl⟩ rfl) (t_nil rfl)
    cases hqe : q.isEmpty
    · have e2 : preT "+" q = "+" ++ joinS q := by unfold preT; rw [hqe]; rfl
      rw [e2]
      refine x_asg (d := .str (T ++ ("+" ++ joinS q))) rfl ?_ (x_done ?_)
      · refine ⟨_, fm_str (by omega), _, a_bld, _, join_bld q hq, _, fm_str (by omega), ?_⟩
        have d1 : (joinS q).length + Str.empty.length ≤ 5000 := by omega
        have d2 : (("+") : Str).length + (joinS q ++ Str.empty).length ≤ 5000 := by simp only [Str.length_append]; omega
        have d3 : T.length + ("+" ++ (joinS q ++ Str.empty)).length ≤ 5000 := by simp only [Str.length_append]; omega
        refine ⟨d1, d2, d3, ?_⟩
        show D.str (T ++ ("+" ++ (joinS q ++ Str.empty))) = _
        rw [Str.append_empty]
      exact x_ret rfl rfl
    · have e2 : preT "+" q = Str.empty := by unfold preT; rw [hqe]; rfl
      rw [e2, Str.append_empty]
      exact x_done (x_ret rfl rfl)
theorem text_len (ha : Small a) (hb : Small b) (hc : Small c) (hp : p ∈ pres) (hq : q ∈ blds) : (textS a b c p q).length ≤ 200 := by
  have la := ha.len
  have lb := hb.len
  have lc := hc.len
  have lp := pre_len p hp
  have lq := bld_len q hq
  unfold textS
  simp only [Str.length_append, dotL]
  omega
theorem fm_ver (ha : Small a) (hb : Tiny b) (hc : Tiny c) (hp : p ∈ pres) (hq : q ∈ blds) : (OO P (n + 4)).fmtS (verD a b c p q) = some (textS a b c p q) :=
  fm_obj (f := 389) (by kernel_rfl) (by kernel_rfl) (call_fn2 (by kernel_rfl) rfl (str389 ha hb hc hp hq)) (Nat.le_trans (text_len ha hb.small hc.small hp hq) (by decide))
theorem str697 (hs : s.length ≤ 2) (ha : Small a) (hb : Tiny b) (hc : Tiny c) (hp : p ∈ pres) (hq : q ∈ blds) : RF P (OO P (n + 4)) 697 [rngD s (verD a b c p q) r w] [] = some (.str (s ++ textS a b c p q)) := by
  have hl := text_len ha hb.small hc.small hp hq
  have l0 : Str.empty.length = 0 := rfl
  refine run_w (ok697 P) (dd := []) (b := [("self", rngD s (verD a b c p q) r w)]) (by kernel_rfl) (by kernel_rfl) (by kernel_rfl) ?_
  refine x_ret (d := .str (s ++ textS a b c p q)) ⟨_, r_op, _, fm_str (by omega), _, r_tgt rfl, _, fm_ver ha hb hc hp hq, ?_⟩ rfl
  have d1 : (textS a b c p q).length + Str.empty.length ≤ 5000 := by omega
  have d2 : s.length + (textS a b c p q ++ Str.empty).length ≤ 5000 := by simp only [Str.length_append]; omega
  refine ⟨d1, d2, ?_⟩
  show D.str (s ++ (textS a b c p q ++ Str.empty)) = _
  rw [Str.append_empty]
theorem str_rng (hs : s.length ≤ 2) (ha : Small a) (hb : Tiny b) (hc : Tiny c) (hp : p ∈ pres) (hq : q ∈ blds) : (OO P (n + 6)).call (.glob (.type "str")) [rngD s (verD a b c p q) r w] [] = some (.str (s ++ textS a b c p q)) :=
  call_str (f := 697) (by kernel_rfl) (by kernel_rfl) (call_fn2 (by kernel_rfl) rfl (str697 hs ha hb hc hp hq))
end
end Mine
end
section
open PySem PySem.W PyProof.Rows
set_option maxRecDepth 1000000
set_option maxHeartbeats 1000000
namespace Mine
open Rx
variable {P : Params}
section
variable {n : Nat} {a b c b' c' : Int} {p q p' q' : List Str} {s r w : Str} {k : Bool}
theorem tru_str {x : Str} (h : 1 ≤ x.length) : (OO P (n + 1)).tru (.str x) = some true := by
  show some ((x.length : Int) != 0) = _
  have : ((x.length : Int) != 0) = true := by rw [bne_iff_ne]; omega
  rw [this]
theorem item_0 {x : Str} {d : Nat} {r : List Nat} (h : x.cps.toList = d :: r) : (OO P (n + 1)).item (.str x) (.int 0) = some (.str ⟨#[d]⟩) := by
  have hs : x.length = r.length + 1 := by
    show x.cps.size = _
    rw [← Array.length_toList, h, List.length_cons]
  have h0 : x.cps[0]? = some d := by rw [← Array.getElem?_toList, h]; rfl
  show itemD (.str x) (.int 0) = _
  have hz : (0 : Int) ≤ 0 ∧ (0 : Int) < 2 ^ 62 := by decide
  show (if (0 : Int) ≤ 0 ∧ (0 : Int) < 2 ^ 62 then ((seqIndex? 0 x.length).bind (x.cps[·]?)).map (fun c => D.str ⟨#[c]⟩) else none) = _
  rw [if_pos hz, hs]
  have hi : seqIndex? 0 (r.length + 1) = some 0 := by
    unfold seqIndex?
    simp
  rw [hi]
  show ((x.cps[0]?).map _) = _
  rw [h0]
  rfl
theorem lead0 : RF P (OO P (n + 1)) 65 [.str (aS 0)] [] = some (.bool false) := by kernel_rfl
theorem lead65 (ha : Small a) : RF P (OO P (n + 1)) 65 [.str (aS a)] [] = some (.bool false) := by
  rcases Int.lt_or_eq_of_le ha.1 with h | h
  · obtain ⟨d, r, e, hd⟩ := digs_head h
    refine run_w (ok65 P) (dd := []) (b := [("value", .str (aS a))]) (by kernel_rfl) (by kernel_rfl) (by kernel_rfl) ?_
    have hl : 1 ≤ (aS a).length := by rw [aS_len']; exact digs_pos ha.1
    have hb : ((⟨#[d]⟩ : Str) == "0") = false := by
      rw [beq_eq_false_iff_ne]
      intro e
      apply hd
      have := congrArg (fun s : Str => s.cps.toList) e
      have h2 : (("0" : Str)).cps.toList = [48] := rfl
      simp only [h2] at this
      exact (List.cons.inj this).1
    refine x_ret (d := .bool false) (e_and (d := .str (aS a)) rfl (tru_str hl) (e_andF (d := .bool false) ⟨_, item_0 e, _, cmp_str, by rw [← hb]; rfl⟩ rfl rfl)) rfl
  · rw [← h]; exact lead0
theorem call65 (ha : Small a) : (OO P (n + 2)).call (.glob (.ref 65)) [.str (aS a)] [] = some (.bool false) := call_fn2 (by kernel_rfl) rfl (lead65 ha)
theorem int_str (ha : Small a) : (OO P (n + 1)).call (.glob (.type "int")) [.str (aS a)] [] = some (.int a) := call_blt rfl rfl (by
  show (if (aS a).length ≤ 640 then (PySem.intText? (aS a)).map D.int else none) = _
  rw [if_pos (Nat.le_trans ha.len (by decide)), aS_int ha.1 ha.2]
  rfl)
theorem coerceT (ha : Small a) : RF P (OO P (n + 2)) 300 [.glob (.ref 457), .str (aS a), .bool false] [] = some (.int a) := by
  refine run_w (ok300 P) (dd := [.bool false]) (b := [("cls", .glob (.ref 457)), ("value", .str (aS a)), ("allow_none", .bool false)]) (by kernel_rfl) (by kernel_rfl) (by kernel_rfl) ?_
  refine x_if false (t_and false ⟨_, rfl, _, tru_b, rfl⟩ rfl) (x_done ?_)
  exact x_ret ⟨_, int_str ha, rfl⟩ rfl
noncomputable def jD (p : List Str) : D := if p.isEmpty then .none else .str (joinS p)
theorem optD_L (p : List Str) : optD (optL p) = jD p := by
  unfold optL jD
  cases p.isEmpty with
  | true => rfl
  | false =>
    show D.str ⟨(joinS p).cps.toList.toArray⟩ = D.str (joinS p)
    rw [Array.toArray_toList]
noncomputable def okTail (p : List Str) : Bool := match optL p with
  | none => true
  | some l => l.all isChr && decide (1 ≤ l.length)
theorem okTail_of {p : List Str} (h : okTail p = true) : ∀ l, optL p = some l → (∀ d ∈ l, isChr d = true) ∧ 1 ≤ l.length := by
  intro l e
  unfold okTail at h
  rw [e] at h
  simp only [Bool.and_eq_true, decide_eq_true_eq] at h
  exact ⟨List.all_eq_true.mp h.1, h.2⟩
theorem ok_pre : ∀ p ∈ pres, okTail p = true := by decide +kernel
theorem ok_bld : ∀ p ∈ blds, okTail p = true := by decide +kernel
theorem valid (ha : Small a) (hb : Small b) (hc : Small c) (hp : p ∈ pres) (hq : q ∈ blds) : Valid (digs a) (digs b) (digs c) (optL p) (optL q) :=
  ⟨fun d h => dec_digit (digs_all ha.1 d h), fun d h => dec_digit (digs_all hb.1 d h), fun d h => dec_digit (digs_all hc.1 d h), digs_pos ha.1, digs_pos hb.1, digs_pos hc.1, okTail_of (ok_pre p hp), okTail_of (ok_bld q hq)⟩
theorem m_re (ha : Small a) (hb : Small b) (hc : Small c) (hp : p ∈ pres) (hq : q ∈ blds) : (OO P (n + 1)).meth (.dat (.glob (.ref 43))) "match" [.str (textS a b c p q)] [] = some (.mtch 43 (textS a b c p q) (spans (digs a) (digs b) (digs c) (optL p) (optL q))) := by
  have hv : isVerPat (KK P) 43 = true := by kernel_rfl
  have hl := text_len ha hb hc hp hq
  have hm : methX (KK P) OWN (OO P n) (.dat (.glob (.ref 43))) "match" [.str (textS a b c p q)] [] = some (.mtch 43 (textS a b c p q) (spans (digs a) (digs b) (digs c) (optL p) (optL q))) := by
    show matchX (KK P) 43 (textS a b c p q) = _
    unfold matchX
    rw [if_pos ⟨hv, by omega⟩, text_render, verCut_render (valid ha hb hc hp hq)]
    rfl
  show methU (KK P) OWN (theX (KK P) OWN) (OO P n) (.dat (.glob (.ref 43))) "match" [.str (textS a b c p q)] [] = _
  have hm' : (theX (KK P) OWN).meth (OO P n) (.dat (.glob (.ref 43))) "match" [.str (textS a b c p q)] [] = some (.mtch 43 (textS a b c p q) (spans (digs a) (digs b) (digs c) (optL p) (optL q))) := hm
  unfold methU
  rw [hm']
theorem m_groups : (OO P (n + 1)).meth (.dat (.mtch 43 (textS a b c p q) (spans (digs a) (digs b) (digs c) (optL p) (optL q)))) "groups" [] [] = some (.tup [.str (aS a), .str (aS b), .str (aS c), jD p, jD q]) := by
  have hl : (spans (digs a) (digs b) (digs c) (optL p) (optL q)).length = 12 := by cases optL p <;> cases optL q <;> rfl
  have hm : (theX (KK P) OWN).meth (OO P n) (.dat (.mtch 43 (textS a b c p q) (spans (digs a) (digs b) (digs c) (optL p) (optL q)))) "groups" [] [] = some (.tup [.str (aS a), .str (aS b), .str (aS c), jD p, jD q]) := by
    show (if (("groups" : Str)) = "groups" ∧ (spans (digs a) (digs b) (digs c) (optL p) (optL q)).length ≤ 100 then some (groupsX (textS a b c p q) (spans (digs a) (digs b) (digs c) (optL p) (optL q))) else none) = _
    rw [if_pos ⟨rfl, by rw [hl]; decide⟩, groups_render (text_render a b c p q), aS_back, aS_back, aS_back, optD_L, optD_L]
  show methU (KK P) OWN (theX (KK P) OWN) (OO P n) (.dat (.mtch 43 (textS a b c p q) (spans (digs a) (digs b) (digs c) (optL p) (optL q)))) "groups" [] [] = _
  unfold methU
  rw [hm]
theorem split_pre : ∀ p ∈ pres, p.isEmpty = false → (OO P (n + 1)).meth (.dat (.str (joinS p))) "split" [.str "."] [] = some (.list (p.map .str)) := by
  unfold pres
  simp only [List.forall_mem_cons, List.not_mem_nil, false_implies, implies_true, and_true]
  refine ⟨fun h => (by cases h), ?_, ?_, ?_, ?_, ?_, ?_⟩ <;> intro _ <;> kernel_rfl
theorem split_bld : ∀ p ∈ blds, p.isEmpty = false → (OO P (n + 1)).meth (.dat (.str (joinS p))) "split" [.str "."] [] = some (.list (p.map .str)) := by
  unfold blds
  simp only [List.forall_mem_cons, List.not_mem_nil, false_implies, implies_true, and_true]
  refine ⟨fun h => (by cases h), ?_, ?_, ?_, ?_, ?_, ?_, ?_, ?_, ?_, ?_, ?_, ?_, ?_⟩ <;> intro _ <;> kernel_rfl
theorem tup_list (hl : p.length ≤ 900) : (OO P (n + 1)).call (.glob (.type "tuple")) [.list (p.map .str)] [] = some (stD p) := call_blt rfl rfl (if_pos (by rw [List.length_map]; omega))
theorem join_ne_pre : ∀ p ∈ pres, p.isEmpty = false → (joinS p == "") = false := by decide +kernel
theorem join_ne_bld : ∀ p ∈ blds, p.isEmpty = false → (joinS p == "") = false := by decide +kernel
end
end Mine
end
section
open PySem PySem.W PyProof.Rows
set_option maxRecDepth 1000000
set_option maxHeartbeats 1000000
namespace Mine
open Rx
variable {P : Params}
section
variable {n : Nat} {a b c b' c' : Int} {p q p' q' : List Str} {s r w : Str} {k : Bool}
theorem parse351 (ha : Small a) (hb : Small b) (hc : Small c) (hp : p ∈ pres) (hq : q ∈ blds) : RF P (OO P (n + 6)) 351 [.glob (.ref 457), .str (textS a b c p q), .bool false] [] = some (.tup [.int a, .int b, .int c, stD p, stD q]) := by
  refine run_w (ok351 P) (dd := [.bool false, .bool false]) (b := [("cls", .glob (.ref 457)), ("version_string", .str (textS a b c p q)), ("partial", .bool false), ("coerce", .bool false)]) (by kernel_rfl) (by kernel_rfl) (by kernel_rfl) ?_
  have ht : 1 ≤ (textS a b c p q).length := by
    have h1 : 1 ≤ (aS a).length := by rw [aS_len']; exact digs_pos ha.1
    unfold textS
    simp only [Str.length_append]
    omega
  have hpl := (pres_ids p hp).2
  have hql := (blds_ids q hq).2
  have hvr : ∀ m, (OO P (m + 1)).attr (.dat (.glob (.ref 457))) "version_re" = some (.glob (.ref 43)) := fun m => by kernel_rfl
  refine x_if false ⟨_, tru_str ht, rfl⟩ (x_done ?_)
  refine x_if false ⟨_, tru_b, rfl⟩ ?_
  refine x_asg (d := .glob (.ref 43)) rfl ⟨_, hvr _, rfl⟩ (x_done ?_)
  refine x_asg rfl ⟨_, m_re ha hb hc hp hq, rfl⟩ ?_
  refine x_if false ⟨_, rfl, rfl⟩ (x_done ?_)
  refine x_tup rfl ⟨_, m_groups, rfl⟩ rfl ?_
  refine x_if false ⟨_, call65 ha, _, tru_b, rfl⟩ (x_done ?_)
  refine x_if false ⟨_, call65 hb, _, tru_b, rfl⟩ (x_done ?_)
  refine x_if false ⟨_, call65 hc, _, tru_b, rfl⟩ (x_done ?_)
  refine x_asg (d := .int a) rfl ⟨_, int_str ha, rfl⟩ ?_
  refine x_asg (d := .int b) rfl ⟨_, meth_cls rfl (clsM_coerce P) (coerceT hb), rfl⟩ ?_
  refine x_asg (d := .int c) rfl ⟨_, meth_cls rfl (clsM_coerce P) (coerceT hc), rfl⟩ ?_
  cases hpe : p.isEmpty
  · have jp : jD p = .str (joinS p) := by unfold jD; rw [hpe]; rfl
    rw [jp]
    refine x_if false ⟨_, rfl, _, tru_b, rfl⟩ ?_
    refine x_if false ⟨_, cmp_strs (join_ne_pre p hp hpe), _, tru_b, rfl⟩ ?_
    refine x_asg (d := stD p) rfl ⟨_, split_pre p hp hpe, _, tup_list hpl, rfl⟩ ?_
    refine x_expk (d := .none) ⟨_, meth_cls rfl (clsM_vi P) (val_pre p hp), rfl⟩ (x_done (x_done ?_))
    cases hqe : q.isEmpty
    · have jq : jD q = .str (joinS q) := by unfold jD; rw [hqe]; rfl
      rw [jq]
      refine x_if false ⟨_, rfl, _, tru_b, rfl⟩ ?_
      refine x_if false ⟨_, cmp_strs (join_ne_bld q hq hqe), _, tru_b, rfl⟩ ?_
      refine x_asg (d := stD q) rfl ⟨_, split_bld q hq hqe, _, tup_list hql, rfl⟩ ?_
      refine x_expk (d := .none) ⟨_, meth_cls rfl (clsM_vi P) (val_bld q hq), rfl⟩ (x_done (x_done ?_))
      exact x_ret rfl rfl
    · have : q = [] := List.isEmpty_iff.mp hqe
      subst this
      refine x_if true ⟨_, rfl, _, tru_b, rfl⟩ ?_
      refine x_if false ⟨_, tru_b, rfl⟩ ?_
      refine x_asg (d := stD []) rfl rfl (x_done (x_done ?_))
      exact x_ret rfl rfl
  · have : p = [] := List.isEmpty_iff.mp hpe
    subst this
    refine x_if true ⟨_, rfl, _, tru_b, rfl⟩ ?_
    refine x_if false (t_and false ⟨_, tru_b, rfl⟩ rfl) ?_
    refine x_asg (d := stD []) rfl rfl (x_done (x_done ?_))
    cases hqe : q.isEmpty
    · have jq : jD q = .str (joinS q) := by unfold jD; rw [hqe]; rfl
      rw [jq]
      refine x_if false ⟨_, rfl, _, tru_b, rfl⟩ ?_
      refine x_if false ⟨_, cmp_strs (join_ne_bld q hq hqe), _, tru_b, rfl⟩ ?_
      refine x_asg (d := stD q) rfl ⟨_, split_bld q hq hqe, _, tup_list hql, rfl⟩ ?_
      refine x_expk (d := .none) ⟨_, meth_cls rfl (clsM_vi P) (val_bld q hq), rfl⟩ (x_done (x_done ?_))
      exact x_ret rfl rfl
    · have : q = [] := List.isEmpty_iff.mp hqe
      subst this
      refine x_if true ⟨_, rfl, _, tru_b, rfl⟩ ?_
      refine x_if false ⟨_, tru_b, rfl⟩ ?_
      refine x_asg (d := stD []) rfl rfl (x_done (x_done ?_))
      exact x_ret rfl rfl
theorem instM_pa (P : Params) : instM (KK P) 457 [] "parse" = some (351, true) ∨ instM (KK P) 457 [] "parse" = some (351, false) := .inr (by kernel_rfl)
end
end Mine
end
section
open PySem PySem.W PyProof.Rows
set_option maxRecDepth 1000000
set_option maxHeartbeats 1000000
namespace Mine
open Rx
variable {P : Params}
section
variable {n : Nat} {a b c b' c' : Int} {p q p' q' : List Str} {s r w : Str} {k : Bool}
theorem instM_pa' (P : Params) : instM (KK P) 457 [] "parse" = some (351, false) := by kernel_rfl
theorem initT (ha : Small a) (hb : Small b) (hc : Small c) (hp : p ∈ pres) (hq : q ∈ blds) : runInit (KK P) OWN (OO P (n + 9)) 457 [.str (textS a b c p q)] [] = some (verD a b c p q) := by
  obtain ⟨hpi, hpl⟩ := pres_ids p hp
  obtain ⟨hqi, hql⟩ := blds_ids q hq
  refine init_w (ok292 P) (dd := [.none, .none, .none, .none, .none, .none, .bool false]) (b := [("self", .glob .none), ("version_string", .str (textS a b c p q)), ("major", .none), ("minor", .none), ("patch", .none), ("prerelease", .none), ("build", .none), ("partial", .bool false)]) (by kernel_rfl) (by kernel_rfl) (by kernel_rfl) (by kernel_rfl) rfl (by kernel_rfl) (by kernel_rfl) ?_
  have n1 : ((vf a b c p q []).map (·.1)) ≠ [] ∧ ((vf a b c p q []).map (·.1)) ≠ [Str.ofString "value"] := by rw [names_vf]; decide
  have n2 : ∀ d, ((vf a b c p q [("_cmp_precedence_key", d)]).map (·.1)) ≠ [] ∧ ((vf a b c p q [("_cmp_precedence_key", d)]).map (·.1)) ≠ [Str.ofString "value"] := by intro d; rw [names_vf, List.map_cons, List.map_nil]; dsimp only; decide
  refine x_asg (d := .bool true) rfl ⟨_, rfl, rfl⟩ ?_
  refine x_asg (d := .bool false) rfl (by repeat first | exact rfl | refine ⟨_, rfl, ?_⟩) ?_
  refine x_if false (by repeat first | exact rfl | refine ⟨_, rfl, ?_⟩) (x_done ?_)
  refine x_if true ⟨_, tru_b, rfl⟩ ?_
  refine x_tup rfl ⟨_, meth_selfc (instM_pa' P) (parse351 ha hb hc hp hq), rfl⟩ rfl (x_done ?_)
  refine x_self (d := .int a) rfl rfl rfl ?_
  refine x_self (d := .int b) rfl rfl rfl ?_
  refine x_self (d := .int c) rfl rfl rfl ?_
  refine x_self (d := stD p) rfl rfl rfl ?_
  refine x_self (d := stD q) rfl rfl rfl ?_
  refine x_self (d := .bool false) rfl rfl rfl ?_
  refine x_self rfl rfl ⟨_, meth_self (instM_bk a b c p q P) (key397 hpi hpl) (clean_key n1 hpi), rfl⟩ ?_
  refine x_self rfl rfl ⟨_, meth_self (instM_bk2 a b c p q _ P) (key397b hpi hpl hqi hql) (clean_keyb (n2 _) hpi hqi), rfl⟩ ?_
  exact x_nil ⟨rfl, rfl⟩
theorem mkTx (ha : Small a) (hb : Small b) (hc : Small c) (hp : p ∈ pres) (hq : q ∈ blds) : (OO P (n + 10)).call (.glob (.ref 457)) [.str (textS a b c p q)] [] = some (verD a b c p q) :=
  call_cls (isCls457 P) rfl (initT ha hb hc hp hq)
theorem mod_i {i m : Int} (h : (m == 0) = false) : (OO P (n + 1)).bin .Mod (.int i) (.int m) = some (.int (i.fmod m)) := bin_of (by
  show (if (m == 0) = false then some (D.int (i.fmod m)) else none) = _
  exact if_pos h)
theorem mod2 {i : Int} : (OO P (n + 1)).bin .Mod (.int i) (.int 2) = some (.int (i.fmod 2)) := mod_i rfl
/-- either road makes it -/
theorem made749 {i : Int} (ha : Small a) (hb : Small b) (hc : Small c) (hp : p ∈ pres) (hq : q ∈ blds) : RF P (OO P (n + 10)) 749 [partsD a b c p q, .int i] [] = some (verD a b c p q) := by
  refine run_w (ok749 P) (dd := []) (b := [("parts", partsD a b c p q), ("road", .int i)]) (by kernel_rfl) (by kernel_rfl) (by kernel_rfl) ?_
  refine x_if (i.fmod 2 == 0) ⟨_, mod2, _, cmp_int, _, tru_b, rfl⟩ ?_
  cases i.fmod 2 == 0
  · exact x_done (x_ret ⟨_, rfl, _, rfl, _, rfl, _, rfl, _, rfl, _, rfl, _, rfl, _, rfl, _, mk5 hp hq, rfl⟩ rfl)
  · exact x_ret ⟨_, call_fn2 (by kernel_rfl) rfl (text742 ha hb hc hp hq), _, mkTx ha hb hc hp hq, rfl⟩ rfl
theorem call_made {i : Int} (ha : Small a) (hb : Small b) (hc : Small c) (hp : p ∈ pres) (hq : q ∈ blds) : (OO P (n + 11)).call (.glob (.ref 749)) [partsD a b c p q, .int i] [] = some (verD a b c p q) := call_fn2 (by kernel_rfl) rfl (made749 ha hb hc hp hq)
theorem call_text742 (ha : Small a) (hb : Small b) (hc : Small c) (hp : p ∈ pres) (hq : q ∈ blds) : (OO P (n + 3)).call (.glob (.ref 742)) [partsD a b c p q] [] = some (.str (textS a b c p q)) := call_fn2 (by kernel_rfl) rfl (text742 ha hb hc hp hq)
theorem call_holds (hs : s ∈ signs) (hp : p ∈ pres) (hp' : p' ∈ pres) : (OO P (n + 6)).call (.glob (.ref 763)) [.str s, .str r, .bool k, partsD a b c p q, partsD a b' c' p' q'] [] = some (.bool (holdsB s r k b c p q b' c' p' q')) := call_fn2 (by kernel_rfl) rfl (holds763 hs hp hp')
end
end Mine
end
section
open PySem PySem.W PyProof.Rows
set_option maxRecDepth 1000000
set_option maxHeartbeats 1000000
namespace Mine
variable {P : Params}
/-- a run that ends in something of the kind R -/
abbrev endR (R : D → Prop) : QX := fun fl _ => match fl with
  | .ret d => R d
  | .next => R .none
  | _ => False
theorem run_wQ {ops : Ops} {f : Addr} {fd : FuncData} (F : FnOk P f fd) {as : List D} {ks : List (Str × D)} {dd : List D} {b : List (Str × D)} {R : D → Prop} (h4 : dfl (KK P) fd.defaults = some dd) (h6 : bindL (fd.params.args.map (·.arg)) as ks dd = some b) (h5 : (b.all fun y => fd.scope.names.lookup y.1 == some .local) = true)
    (h : wX (ctx ops fd f) 60 ⟨b.reverse, .none⟩ (bodyOf fd) (endR R)) : ∃ d, RF P ops f as ks = some d ∧ R d := by
  obtain ⟨fl, ρ', e, h⟩ := wX_ok (g' := globIn (KK P)) (s' := settable (KK P)) (gl_ok P) (st_ok P) _ h
  have e : exs ⟨fd.scope, globIn (KK P), ops, OWN f, settable (KK P), 40⟩ 60 ⟨b.reverse, .none⟩ (bodyOf fd) = some (fl, ρ') := e
  have : ∀ d, (match fl with
      | .ret d => some d
      | .next => some D.none
      | _ => none) = some d → RF P ops f as ks = some d := by
    intro d hd
    unfold RF runF
    rw [F.at_]
    dsimp only
    rw [if_pos F.good, F.body, h4]
    dsimp only
    rw [h6]
    dsimp only
    rw [if_pos h5, e]
    cases fl <;> exact hd
  cases fl with
  | ret d => exact ⟨d, this d rfl, h⟩
  | next => exact ⟨.none, this .none rfl, h⟩
  | brk => exact h.elim
  | cont => exact h.elim
theorem e_nm {c : PC} {n : Nat} {x : Str} {p : Pos} {d : D} {Q : D → Prop} (h : nameD c x = some d) (q : Q d) : wE c (n + 1) (.Name x p) Q := by
  show (match nameD c x with
    | some d => Q d
    | none => False)
  rw [h]; exact q
theorem e_item {c : PC} {n : Nat} {v i : Expr} {p : Pos} {a b d : D} {Q : D → Prop} (hs : isSlice i = false) (h1 : wE c n v (· = a)) (h2 : wE c n i (· = b)) (t : c.ops.item a b = some d) (q : Q d) : wE c (n + 1) (.Subscript v i p) Q := by
  show (match isSlice i with
    | true => False
    | false => wE c n v fun a => wE c n i fun b => W (c.ops.item a b) Q)
  rw [hs]
  exact wE_cut h1 (wE_cut h2 ⟨_, t, q⟩)
theorem wEs_cons {c : PC} {n : Nat} {e : Expr} {r : List Expr} {d : D} {Q : List D → Prop} (hs : notStar e = true) (h : wE c n e (· = d)) (k : wEs (wE c n) r fun ds => Q (d :: ds)) : wEs (wE c n) (e :: r) Q := by
  unfold wEs
  rw [hs]
  exact wE_cut h k
theorem wEs_nil {c : PC} {n : Nat} {Q : List D → Prop} (k : Q []) : wEs (wE c n) [] Q := k
theorem e_tup {c : PC} {n : Nat} {es : List Expr} {k : Nat} {p : Pos} {ds : List D} {Q : D → Prop} (h : wEs (wE c n) es (· = ds)) (hl : decide (ds.length ≤ 1000) = true) (q : Q (.tup ds)) : wE c (n + 1) (.Tuple es k p) Q := by
  show wEs (wE c n) es fun ds => match decide (ds.length ≤ 1000) with
    | true => Q (.tup ds)
    | false => False
  refine wEs_mono (fun e Q R => (wBoth_mono c n).1 e Q R) (fun ds' (h : ds' = ds) => ?_) h
  subst h
  rw [hl]; exact q
theorem e_lst {c : PC} {n : Nat} {es : List Expr} {p : Pos} {ds : List D} {Q : D → Prop} (h : wEs (wE c n) es (· = ds)) (hl : decide (ds.length ≤ 1000) = true) (q : Q (.list ds)) : wE c (n + 1) (.List es p) Q := by
  show wEs (wE c n) es fun ds => match decide (ds.length ≤ 1000) with
    | true => Q (.list ds)
    | false => False
  refine wEs_mono (fun e Q R => (wBoth_mono c n).1 e Q R) (fun ds' (h : ds' = ds) => ?_) h
  subst h
  rw [hl]; exact q
section
variable {n : Nat}
theorem div_i {i m : Int} (h : (m == 0) = false) (h1 : Builtin.divisionGoesByPylong i m = false) : (OO P (n + 1)).bin .FloorDiv (.int i) (.int m) = some (.int (i.fdiv m)) := bin_of (by
  show (if (m == 0) = false ∧ Builtin.divisionGoesByPylong i m = false then some (D.int (i.fdiv m)) else none) = _
  exact if_pos ⟨h, h1⟩)
theorem add_i {i j : Int} : (OO P (n + 1)).bin .Add (.int i) (.int j) = some (.int (i + j)) := bin_of rfl
theorem sub_i {i j : Int} : (OO P (n + 1)).bin .Sub (.int i) (.int j) = some (.int (i - j)) := bin_of rfl
noncomputable def signL : List D := signs.map .str
noncomputable def rules : List Str := ["natural", "always", "same-patch"]
noncomputable def ruleL : List D := rules.map .str
noncomputable def presL : List D := [stD [], stD [], stD ["a"], stD ["a", "1"], stD ["b"], stD ["1"], stD ["2"], stD ["1", "a"]]
noncomputable def bldsL : List D := [stD [], stD [], stD ["x"], stD ["x", "1"], stD ["y"], stD ["1"], stD ["01"], stD ["x", "y"]]
theorem c709 : (OO P (n + 2)).call (.glob (.ref 709)) [] [] = some (.list signL) := by kernel_rfl
theorem c716 : (OO P (n + 2)).call (.glob (.ref 716)) [] [] = some (.list ruleL) := by kernel_rfl
theorem c723 : (OO P (n + 2)).call (.glob (.ref 723)) [] [] = some (.list presL) := by kernel_rfl
theorem c730 : (OO P (n + 2)).call (.glob (.ref 730)) [] [] = some (.list bldsL) := by kernel_rfl
theorem pick {l : List D} {x m : Int} (hm : 0 < m) (hl : m = l.length) (hb : m < 2 ^ 62) : ∃ d ∈ l, (OO P (n + 1)).item (.list l) (.int (x.fmod m)) = some d := by
  have h0 : 0 ≤ x.fmod m := Int.fmod_nonneg_of_pos x hm
  have h1 : x.fmod m < m := Int.fmod_lt_of_pos x hm
  have hi : (x.fmod m).toNat < l.length := by omega
  refine ⟨l[(x.fmod m).toNat], List.getElem_mem hi, ?_⟩
  show (if 0 ≤ x.fmod m ∧ x.fmod m < 2 ^ 62 then l[(x.fmod m).toNat]? else none) = _
  rw [if_pos ⟨h0, by omega⟩]
  exact List.getElem?_eq_getElem hi
theorem mem_sign {d : D} (h : d ∈ signL) : ∃ s ∈ signs, d = .str s := by
  obtain ⟨s, hs, e⟩ := List.mem_map.mp h
  exact ⟨s, hs, e.symm⟩
theorem mem_rule {d : D} (h : d ∈ ruleL) : ∃ s ∈ rules, d = .str s := by
  obtain ⟨s, hs, e⟩ := List.mem_map.mp h
  exact ⟨s, hs, e.symm⟩
noncomputable def blds0 : List (List Str) := [[], ["x"], ["x", "1"], ["y"], ["1"], ["01"], ["x", "y"]]
theorem mem_pres {d : D} (h : d ∈ presL) : ∃ p ∈ pres, d = stD p := by
  unfold presL at h
  simp only [List.mem_cons, List.not_mem_nil, or_false] at h
  rcases h with rfl | rfl | rfl | rfl | rfl | rfl | rfl | rfl
  · exact ⟨[], by decide, rfl⟩
  · exact ⟨[], by decide, rfl⟩
  · exact ⟨["a"], by decide, rfl⟩
  · exact ⟨["a", "1"], by decide, rfl⟩
  · exact ⟨["b"], by decide, rfl⟩
  · exact ⟨["1"], by decide, rfl⟩
  · exact ⟨["2"], by decide, rfl⟩
  · exact ⟨["1", "a"], by decide, rfl⟩
theorem mem_blds {d : D} (h : d ∈ bldsL) : ∃ p ∈ blds0, d = stD p := by
  unfold bldsL at h
  simp only [List.mem_cons, List.not_mem_nil, or_false] at h
  rcases h with rfl | rfl | rfl | rfl | rfl | rfl | rfl | rfl
  · exact ⟨[], by decide, rfl⟩
  · exact ⟨[], by decide, rfl⟩
  · exact ⟨["x"], by decide, rfl⟩
  · exact ⟨["x", "1"], by decide, rfl⟩
  · exact ⟨["y"], by decide, rfl⟩
  · exact ⟨["1"], by decide, rfl⟩
  · exact ⟨["01"], by decide, rfl⟩
  · exact ⟨["x", "y"], by decide, rfl⟩
theorem blds0_blds : ∀ q ∈ blds0, q ∈ blds ∧ q ++ [("z" : Str)] ∈ blds := by decide
end
end Mine
end
section
open PySem PySem.W PyProof.Rows
set_option maxRecDepth 1000000
set_option maxHeartbeats 1000000
namespace Mine
variable {P : Params}
theorem nm {c : FC} {vs : List (Str × D)} {own : Own} {x : Str} {d : D} (h : (!(x == ("__debug__" : Str)) && c.sc.names.lookup x == some .local) = true) (hl : vs.lookup x = some d) : nameD (c.pc ⟨vs, own⟩) x = some d := by
  rw [Bool.and_eq_true, Bool.not_eq_true', beq_iff_eq] at h
  show (if (x == ("__debug__" : Str)) = true then none else match c.sc.names.lookup x with
    | some .local => vs.lookup x
    | some .globalImplicit => (c.glob x).map globD
    | _ => none) = some d
  rw [h.1, h.2]
  exact hl
noncomputable def Lk (vs : List (Str × D)) (x : Str) (d : D) : Prop := vs.lookup x = some d
noncomputable def bodyFor : Stmt → List Stmt
  | .For _ _ b _ _ => b
  | _ => []
noncomputable def L770 (P : Params) : List Stmt := bodyFor ((bodyOf (F770 P)).getD 9 default)
/-- a version to be asked about -/
noncomputable def OtherOk (a : Int) (o : D) : Prop := ∃ b c p q, o = partsD a b c p q ∧ Tiny b ∧ Tiny c ∧ p ∈ pres ∧ q ∈ blds
noncomputable def keepN : List Str := ["sign", "rule", "strict", "numbers", "target"]
section
variable {n m' : Nat} {m a b c b' c' : Int} {p q : List Str} {vs : List (Str × D)} {l : List D} {Q : QX}
theorem dv {i : Int} {m : Int} (h : (let digits (n : Int) : Nat := if n == 0 then 0 else n.natAbs.log2 / 30 + 1; decide (digits m > 300)) = false) : Builtin.divisionGoesByPylong i m = false := by
  show (decide _ && decide _) = false
  rw [Bool.and_eq_false_iff]
  exact .inl h
theorem rest770 (hl : l.length ≤ 900) (hm : Lk vs "m" (.int m)) (hn : Lk vs "near" (.tup [.int a, .int b', .int c'])) (ht : Lk vs "target" (partsD a b c p q)) (hb : Tiny b') (hc : Tiny c') (hq : q ∈ blds)
    (k : ∀ o, OtherOk a o → Q .next ⟨("m", .int (m.fdiv 768)) :: vs, .lst "others" (l ++ [o])⟩) : wX (ctx (OO P (n + 5)) (F770 P) 770) (m' + 3) ⟨vs, .lst "others" l⟩ ((L770 P).drop 3) Q := by
  obtain ⟨dp, mp, ep⟩ := pick (P := P) (n := n + 4) (l := presL) (x := m.fdiv 4) (m := 8) (by decide) rfl (by decide)
  obtain ⟨dq, mq, eq⟩ := pick (P := P) (n := n + 4) (l := bldsL) (x := m.fdiv 96) (m := 8) (by decide) rfl (by decide)
  obtain ⟨p', hp', rfl⟩ := mem_pres mp
  obtain ⟨q1, hq1, rfl⟩ := mem_blds mq
  have hd : decide (l.length ≤ 900) = true := decide_eq_true hl
  refine x_app (d := .list [.tup [.int a, .int b', .int c'], stD p', stD (if (m.fdiv 32).fmod 3 == 0 then q else q1)]) rfl rfl ?_ (e_lst (wEs_cons rfl (e_nm (nm rfl hn) rfl) (wEs_cons rfl (e_item rfl ⟨_, c723, rfl⟩ (e_bin (e_bin (e_nm (nm rfl hm) rfl) rfl (div_i rfl (dv (by decide +kernel))) rfl) rfl (mod_i rfl) rfl) ep rfl) (wEs_cons rfl (e_if ((m.fdiv 32).fmod 3 == 0) (t_cmp rfl (e_bin (e_bin (e_nm (nm rfl hm) rfl) rfl (div_i rfl (dv (by decide +kernel))) rfl) rfl (mod_i rfl) rfl) rfl cmp_int tru_b rfl) ?_) (wEs_nil rfl)))) rfl rfl) ?_
  · rw [hd]; rfl
  · cases (m.fdiv 32).fmod 3 == 0
    · exact e_item rfl ⟨_, c730, rfl⟩ (e_bin (e_bin (e_nm (nm rfl hm) rfl) rfl (div_i rfl (dv (by decide +kernel))) rfl) rfl (mod_i rfl) rfl) eq rfl
    · exact e_item rfl (e_nm (nm rfl ht) rfl) rfl rfl rfl
  refine x_asg (d := .int (m.fdiv 768)) rfl (e_bin (e_nm (nm rfl hm) rfl) rfl (div_i rfl (dv (by decide +kernel))) rfl) (x_nil ?_)
  refine k _ ⟨b', c', p', _, rfl, hb, hc, hp', ?_⟩
  split
  · exact hq
  · exact (blds0_blds _ hq1).1
end
end Mine
end
section
open PySem PySem.W PyProof.Rows
set_option maxRecDepth 1000000
set_option maxHeartbeats 1000000
namespace Mine
variable {P : Params}
noncomputable def Same (vs' vs : List (Str × D)) : Prop := ∀ x ∈ keepN, vs'.lookup x = vs.lookup x
noncomputable def lkU (vs : List (Str × D)) (x : Str) : Option D := vs.lookup x
theorem Same.of {vs' vs : List (Str × D)} (h1 : lkU vs' "sign" = lkU vs "sign") (h2 : lkU vs' "rule" = lkU vs "rule") (h3 : lkU vs' "strict" = lkU vs "strict") (h4 : lkU vs' "numbers" = lkU vs "numbers") (h5 : lkU vs' "target" = lkU vs "target") : Same vs' vs := by
  intro x hx
  unfold keepN at hx
  simp only [List.mem_cons, List.not_mem_nil, or_false] at hx
  rcases hx with rfl | rfl | rfl | rfl | rfl
  · exact h1
  · exact h2
  · exact h3
  · exact h4
  · exact h5
theorem Same.lk {vs' vs : List (Str × D)} (h : Same vs' vs) {x : Str} {d : D} (hx : x ∈ keepN) (e : Lk vs x d) : Lk vs' x d := (h x hx).trans e
theorem Same.tr {vs₃ vs₂ vs₁ : List (Str × D)} (h : Same vs₃ vs₂) (g : Same vs₂ vs₁) : Same vs₃ vs₁ := fun x hx => (h x hx).trans (g x hx)
section
variable {n m' : Nat} {m a b c b' c' : Int} {p q : List Str} {vs : List (Str × D)} {l : List D} {Q : QX}
noncomputable def Few (b : Int) : Prop := 0 ≤ b ∧ b < 10 ^ 9
theorem Few.tiny (h : Few b) : Tiny b := ⟨h.1, Int.lt_trans h.2 (by decide)⟩
theorem Few.succ (h : Few b) : Tiny (b + 1) := ⟨Int.le_trans h.1 (by omega), Int.lt_of_le_of_lt (Int.add_one_le_of_lt h.2) (by decide)⟩
theorem Few.pred (h : Few b) (h0 : ¬ b = 0) : Tiny (b - 1) := ⟨by have := h.1; omega, Int.lt_trans (Int.sub_lt_self b (by decide)) h.tiny.2⟩
theorem turn770 (hl : l.length ≤ 900) (hm : Lk vs "m" (.int m)) (hn : Lk vs "numbers" (.tup [.int a, .int b, .int c])) (ht : Lk vs "target" (partsD a b c p q)) (hb : Few b) (hc : Few c) (hq : q ∈ blds)
    (k : ∀ vs' o, OtherOk a o → Lk vs' "m" (.int (m.fdiv 768)) → Same vs' vs → Q .next ⟨vs', .lst "others" (l ++ [o])⟩) : wX (ctx (OO P (n + 5)) (F770 P) 770) (m' + 6) ⟨vs, .lst "others" l⟩ (L770 P) Q := by
  refine x_asg (d := .int (m.fmod 4)) rfl (e_bin (e_nm (nm rfl hm) rfl) rfl (mod_i rfl) rfl) ?_
  refine x_asg (d := .tup [.int a, .int b, .int c]) rfl (e_nm (nm rfl hn) rfl) ?_
  refine x_if (m.fmod 4 == 2) ⟨_, cmp_int, _, tru_b, rfl⟩ ?_
  cases m.fmod 4 == 2
  · refine x_if (m.fmod 4 == 3) ⟨_, cmp_int, _, tru_b, rfl⟩ ?_
    cases m.fmod 4 == 3
    · refine x_done (x_done (rest770 (b' := b) (c' := c) hl hm rfl ht hb.tiny hc.tiny hq fun o ho => k _ o ho rfl (.of rfl rfl rfl rfl rfl)))
    · by_cases h0 : c = 0
      · subst h0
        refine x_asg (d := .tup [.int a, .int (b + 1), .int 0]) rfl (e_if true (t_cmp rfl (e_item rfl (e_nm (nm rfl hn) rfl) rfl rfl rfl) rfl cmp_int tru_b rfl) (e_tup (wEs_cons rfl (e_item rfl (e_nm (nm rfl hn) rfl) rfl rfl rfl) (wEs_cons rfl (e_bin (e_item rfl (e_nm (nm rfl hn) rfl) rfl rfl rfl) rfl add_i rfl) (wEs_cons rfl rfl (wEs_nil rfl)))) rfl rfl)) (x_done (x_done ?_))
        exact rest770 (b' := b + 1) (c' := 0) hl hm rfl ht hb.succ hc.tiny hq fun o ho => k _ o ho rfl (.of rfl rfl rfl rfl rfl)
      · have hc0 : (c == 0) = false := by rw [beq_eq_false_iff_ne]; exact h0
        refine x_asg (d := .tup [.int a, .int b, .int (c - 1)]) rfl (e_if false (t_cmp rfl (e_item rfl (e_nm (nm rfl hn) rfl) rfl rfl rfl) rfl cmp_int tru_b hc0) (e_tup (wEs_cons rfl (e_item rfl (e_nm (nm rfl hn) rfl) rfl rfl rfl) (wEs_cons rfl (e_item rfl (e_nm (nm rfl hn) rfl) rfl rfl rfl) (wEs_cons rfl (e_bin (e_item rfl (e_nm (nm rfl hn) rfl) rfl rfl rfl) rfl sub_i rfl) (wEs_nil rfl)))) rfl rfl)) (x_done (x_done ?_))
        exact rest770 (b' := b) (c' := c - 1) hl hm rfl ht hb.tiny (hc.pred h0) hq fun o ho => k _ o ho rfl (.of rfl rfl rfl rfl rfl)
  · refine x_asg (d := .tup [.int a, .int b, .int (c + 1)]) rfl (e_tup (wEs_cons rfl (e_item rfl (e_nm (nm rfl hn) rfl) rfl rfl rfl) (wEs_cons rfl (e_item rfl (e_nm (nm rfl hn) rfl) rfl rfl rfl) (wEs_cons rfl (e_bin (e_item rfl (e_nm (nm rfl hn) rfl) rfl rfl rfl) rfl add_i rfl) (wEs_nil rfl)))) rfl rfl) (x_done ?_)
    exact rest770 (b' := b) (c' := c + 1) hl hm rfl ht hb.tiny hc.succ hq fun o ho => k _ o ho rfl (.of rfl rfl rfl rfl rfl)
theorem loop770 (hb : Few b) (hc : Few c) (hq : q ∈ blds) {xp : Pos} : ∀ {ds : List D} {l : List D} {vs : List (Str × D)} {m : Int}, l.length + ds.length ≤ 900 → Lk vs "m" (.int m) → Lk vs "numbers" (.tup [.int a, .int b, .int c]) → Lk vs "target" (partsD a b c p q) → (∀ o ∈ l, OtherOk a o) →
    (∀ vs' l', Same vs' vs → (∀ o ∈ l', OtherOk a o) → l'.length ≤ 900 → Q .next ⟨vs', .lst "others" l'⟩) → wLoop (ctx (OO P (n + 5)) (F770 P) 770) (.Name "k" xp) (fun ρ Q => wX (ctx (OO P (n + 5)) (F770 P) 770) (m' + 6) ρ (L770 P) Q) ds ⟨vs, .lst "others" l⟩ Q
  | [], l, vs, m, hl, hm, hn, ht, ho, k => k vs l (fun _ _ => rfl) ho (by simpa using hl)
  | d :: ds, l, vs, m, hl, hm, hn, ht, ho, k => by
    have hl' : l.length + (ds.length + 1) ≤ 900 := hl
    unfold wLoop
    refine ⟨⟨("k", d) :: vs, .lst "others" l⟩, rfl, ?_⟩
    refine turn770 (by omega) hm hn ht hb hc hq fun vs' o hoo hm' hs => ?_
    have hs : Same vs' vs := hs.tr (.of rfl rfl rfl rfl rfl)
    refine loop770 hb hc hq (by rw [List.length_append]; show l.length + 1 + ds.length ≤ 900; omega) hm' (hs.lk (by decide) hn) (hs.lk (by decide) ht) ?_ fun vs'' l'' h1 h2 h3 => k vs'' l'' (h1.tr hs) h2 h3
    intro x hx
    rcases List.mem_append.mp hx with h | h
    · exact ho x h
    · rw [List.mem_singleton.mp h]; exact hoo
end
end Mine
end
section
open PySem PySem.W PyProof.Rows
set_option maxRecDepth 1000000
set_option maxHeartbeats 1000000
namespace Mine
variable {P : Params}
/-- what is drawn -/
noncomputable def DrawOk (N : Int) (d : D) : Prop := ∃ s r k a b c p q others, d = .tup [.str s, .str r, .bool k, partsD a b c p q, .list others] ∧ s ∈ signs ∧ r ∈ rules ∧ Small a ∧ Few b ∧ Few c ∧ p ∈ pres ∧ q ∈ blds0 ∧ (∀ o ∈ others, OtherOk a o) ∧ others.length ≤ 900 ∧ itemD (.list ruleL) (.int ((N.fdiv 6).fmod 3)) = some (.str r)
theorem few_mod {x : Int} : Few (x.fmod 3) := ⟨Int.fmod_nonneg_of_pos x (by decide), Int.lt_trans (Int.fmod_lt_of_pos x (by decide)) (by decide)⟩
theorem Few.small {b : Int} (h : Few b) : Small b := h.tiny.small
section
variable {n : Nat} {N M g : Int}
theorem draw770 (hg : Small g) : ∃ d, RF P (OO P (n + 5)) 770 [.int N, .int M, .int g] [] = some d ∧ DrawOk N d := by
  refine run_wQ (ok770 P) (dd := []) (b := [("n", .int N), ("m", .int M), ("great", .int g)]) (by kernel_rfl) (by kernel_rfl) (by kernel_rfl) ?_
  obtain ⟨ds, ms, es⟩ := pick (P := P) (n := n + 4) (l := signL) (x := N) (m := 6) (by decide) rfl (by decide)
  obtain ⟨s, hs, rfl⟩ := mem_sign ms
  obtain ⟨dr, mr, er⟩ := pick (P := P) (n := n + 4) (l := ruleL) (x := N.fdiv 6) (m := 3) (by decide) rfl (by decide)
  obtain ⟨r, hr, rfl⟩ := mem_rule mr
  refine x_asg (d := .str s) rfl ⟨_, c709, _, mod_i rfl, _, es, rfl⟩ ?_
  refine x_asg (d := .str r) rfl ⟨_, c716, _, div_i rfl (dv (by decide +kernel)), _, mod_i rfl, _, er, rfl⟩ ?_
  refine x_asg (d := .bool ((N.fdiv 18).fmod 2 == 1)) rfl ⟨_, div_i rfl (dv (by decide +kernel)), _, mod_i rfl, _, cmp_int, rfl⟩ ?_
  generalize ((N.fdiv 18).fmod 2 == 1) = k
  refine x_asg (d := .int (N.fdiv 36)) rfl ⟨_, div_i rfl (dv (by decide +kernel)), rfl⟩ ?_
  clear es
  have er : itemD (.list ruleL) (.int ((N.fdiv 6).fmod 3)) = some (.str r) := er
  generalize N.fdiv 36 = N1
  refine x_asg (d := .tup [.int (if N1.fmod 4 == 0 then g else (N1.fdiv 4).fmod 3), .int ((N1.fdiv 12).fmod 3), .int ((N1.fdiv 36).fmod 3)]) rfl (e_tup (wEs_cons rfl (e_if (N1.fmod 4 == 0) ⟨_, mod_i rfl, _, cmp_int, _, tru_b, rfl⟩ ?_) (wEs_cons rfl ⟨_, div_i rfl (dv (by decide +kernel)), _, mod_i rfl, rfl⟩ (wEs_cons rfl ⟨_, div_i rfl (dv (by decide +kernel)), _, mod_i rfl, rfl⟩ (wEs_nil rfl)))) rfl rfl) ?_
  · cases N1.fmod 4 == 0
    · exact ⟨_, div_i rfl (dv (by decide +kernel)), _, mod_i rfl, rfl⟩
    · exact rfl
  have ha : Small (if N1.fmod 4 == 0 then g else (N1.fdiv 4).fmod 3) := by
    cases N1.fmod 4 == 0
    · exact few_mod.small
    · exact hg
  generalize (if N1.fmod 4 == 0 then g else (N1.fdiv 4).fmod 3) = a at ha ⊢
  have hb : Few ((N1.fdiv 12).fmod 3) := few_mod
  have hc : Few ((N1.fdiv 36).fmod 3) := few_mod
  generalize (N1.fdiv 12).fmod 3 = b at hb ⊢
  generalize (N1.fdiv 36).fmod 3 = c at hc ⊢
  refine x_asg (d := .int (N1.fdiv 108)) rfl ⟨_, div_i rfl (dv (by decide +kernel)), rfl⟩ ?_
  generalize N1.fdiv 108 = N2
  obtain ⟨dq, mq, eq⟩ := pick (P := P) (n := n + 4) (l := bldsL) (x := N2) (m := 8) (by decide) rfl (by decide)
  obtain ⟨q0, hq0, rfl⟩ := mem_blds mq
  obtain ⟨dp, mp, ep⟩ := pick (P := P) (n := n + 4) (l := presL) (x := N2.fdiv 64) (m := 8) (by decide) rfl (by decide)
  obtain ⟨p, hp, rfl⟩ := mem_pres mp
  refine x_asg (d := stD (if (isE s || (N2.fdiv 8).fmod 8 == 0) then q0 else [])) rfl (e_if (isE s || (N2.fdiv 8).fmod 8 == 0) (t_or (isE s) ⟨_, in2, _, tru_b, rfl⟩ ?_) ?_) ?_
  · cases isE s
    · exact t_or ((N2.fdiv 8).fmod 8 == 0) ⟨_, div_i rfl (dv (by decide +kernel)), _, mod_i rfl, _, cmp_int, _, tru_b, rfl⟩ (by cases (N2.fdiv 8).fmod 8 == 0 <;> rfl)
    · rfl
  · cases (isE s || (N2.fdiv 8).fmod 8 == 0)
    · exact rfl
    · exact ⟨_, c730, _, mod_i rfl, _, eq, rfl⟩
  have hq : (if (isE s || (N2.fdiv 8).fmod 8 == 0) then q0 else []) ∈ blds0 := by
    cases (isE s || (N2.fdiv 8).fmod 8 == 0)
    · exact (by decide : ([] : List Str) ∈ blds0)
    · exact hq0
  generalize (if (isE s || (N2.fdiv 8).fmod 8 == 0) then q0 else []) = q at hq ⊢
  refine x_asg (d := partsD a b c p q) rfl ⟨_, c723, _, div_i rfl (dv (by decide +kernel)), _, mod_i rfl, _, ep, rfl⟩ ?_
  refine x_own (l := [partsD a b c p q]) rfl rfl ⟨_, rfl, _, rfl, rfl⟩ ?_
  refine x_range (i := 4) rfl (by decide) rfl ?_
  refine loop770 (m' := 44) hb hc (blds0_blds q hq).1 (show 1 + 4 ≤ 900 by decide) rfl rfl rfl ?_ ?_
  · intro o ho
    rw [List.mem_singleton.mp ho]
    exact ⟨b, c, p, q, rfl, hb.tiny, hc.tiny, hp, (blds0_blds q hq).1⟩
  · intro vs' l' hS hO hL
    refine x_ret (e_tup (wEs_cons rfl (e_nm (nm rfl (hS.lk (x := "sign") (by decide) rfl)) rfl) (wEs_cons rfl (e_nm (nm rfl (hS.lk (x := "rule") (by decide) rfl)) rfl) (wEs_cons rfl (e_nm (nm rfl (hS.lk (x := "strict") (by decide) rfl)) rfl) (wEs_cons rfl (e_nm (nm rfl (hS.lk (x := "target") (by decide) rfl)) rfl) (wEs_cons rfl (e_nm (nm rfl rfl) rfl) (wEs_nil rfl)))))) rfl rfl) ?_
    exact ⟨s, r, k, a, b, c, p, q, l', rfl, hs, hr, ha, hb, hc, hp, hq, hO, hL, er⟩
/-- the mix of a number -/
noncomputable def seedV (x y : Int) : Int := x + y * 7919 + 12345
noncomputable def mixV (x y : Int) : Int := (seedV x y * seedV x y * seedV x y).fmod (2 ^ 61 - 1)
theorem mix737 {x y : Int} (h1 : mulFits y 7919 = true) (h2 : mulFits (seedV x y) (seedV x y) = true) (h3 : mulFits (seedV x y * seedV x y) (seedV x y) = true) : RF P (OO P (n + 1)) 737 [.int x, .int y] [] = some (.int (mixV x y)) := by
  refine run_w (ok737 P) (dd := []) (b := [("number", .int x), ("salt", .int y)]) (by kernel_rfl) (by kernel_rfl) (by kernel_rfl) ?_
  refine x_asg (d := .int (seedV x y)) rfl ⟨_, mul' h1, _, add_i, _, add_i, rfl⟩ ?_
  generalize hz : seedV x y = z at h2 h3 ⊢
  have e : mixV x y = (z * z * z).fmod 2305843009213693951 := by unfold mixV; rw [hz]; rfl
  rw [e]
  refine x_ret ⟨_, mul' h2, _, mul' h3, _, (by kernel_rfl : (OO P (n + 1)).bin .Pow (.int 2) (.int 61) = some (.int 2305843009213693952)), _, (sub_i : (OO P (n + 1)).bin .Sub (.int 2305843009213693952) (.int 1) = some (.int 2305843009213693951)), _, mod_i rfl, rfl⟩ rfl
end
end Mine
end
section
open PySem PySem.W PyProof.Rows
set_option maxRecDepth 1000000
set_option maxHeartbeats 1000000
namespace Mine
variable {P : Params}
section
variable {n : Nat} {N M g a b c : Int} {p q : List Str} {s r : Str} {k : Bool} {others : List D}
/-- the case's names before the try -/
noncomputable def caseV (N M g : Int) (s r : Str) (k : Bool) (a b c : Int) (p q : List Str) (others : List D) : List (Str × D) :=
  [("way", .str (wayS k)), ("wrong", .bool (!q.isEmpty && !isE s)), ("keen", .bool (k || !q.isEmpty)), ("made", verD a b c p q), ("others", .list others), ("target", partsD a b c p q), ("strict", .bool k), ("rule", .str r), ("sign", .str s), ("great", .int g), ("m", .int M), ("n", .int N)]
theorem notin2' {s : Str} : (OO P (n + 1)).cmp .NotIn (.str s) (.list [.str "==", .str "!="]) = some (.bool (!isE s)) := rfl
theorem pre777 (hp : p ∈ pres) (hq : q ∈ blds0) (ha : Small a) (hb : Few b) (hc : Few c) (hd : RF P (OO P (n + 19)) 770 [.int N, .int M, .int g] [] = some (.tup [.str s, .str r, .bool k, partsD a b c p q, .list others])) :
    wX (ctx (OO P (n + 20)) (F777 P) 777) 60 ⟨[("great", .int g), ("m", .int M), ("n", .int N)], .none⟩ ((bodyOf (F777 P)).take 5) (fun fl ρ => fl = .next ∧ ρ = ⟨caseV N M g s r k a b c p q others, .none⟩) := by
  have hq' := (blds0_blds q hq).1
  refine x_tup rfl ⟨_, call_fn2 (by kernel_rfl) rfl hd, rfl⟩ rfl ?_
  refine x_asg (d := verD a b c p q) rfl ⟨_, call_made ha hb.small hc.small hp hq', rfl⟩ ?_
  refine x_asg (d := .bool (k || !q.isEmpty)) rfl ?_ ?_
  · cases k
    · exact e_or (d := .bool false) rfl tru_b (e_one ⟨_, rfl, _, ne_nil, rfl⟩)
    · exact e_orT (d := .bool true) rfl tru_b rfl
  refine x_asg (d := .bool (!q.isEmpty && !isE s)) rfl ?_ ?_
  · refine e_andB (t := !q.isEmpty) (fun _ => rfl) ⟨_, rfl, _, ne_nil, rfl⟩ (fun h => ?_) (fun h => by rw [h]; rfl)
    exact ⟨_, notin2', by rw [h]; rfl⟩
  refine x_asg (d := .str (wayS k)) rfl (e_if k ⟨_, tru_b, rfl⟩ ?_) (x_nil ⟨rfl, rfl⟩)
  cases k <;> rfl
end
end Mine
end
section
open PySem PySem.W PyProof.Rows
set_option maxRecDepth 1000000
set_option maxHeartbeats 1000000
namespace Mine
variable {P : Params}
theorem e_call {c : PC} {n : Nat} {x : Str} {p pos : Pos} {es : List Expr} {h d : D} {ds : List D} {Q : D → Prop} (hc : (callOk es.length [] && noGen es) = true) (hh : wE c n (.Name x p) (· = h)) (hs : wEs (wE c n) es (· = ds)) (t : c.ops.call h ds [] = some d) (q : Q d) : wE c (n + 1) (.Call (.Name x p) es [] pos) Q := by
  have e : wE c (n + 1) (.Call (.Name x p) es [] pos) Q = (match (callOk es.length [] && noGen es) with
      | true => wE c n (.Name x p) fun h => wEs (wE c n) es fun ds => wKs (wE c n) [] fun ks => W (c.ops.call h ds ks) Q
      | false => False) := by
    show wEStep c (wBoth c n).1 (wBoth c n).2 (.Call (.Name x p) es [] pos) Q = _
    simp only [wEStep, genOf_none (kws := []) (Bool.and_eq_true_iff.mp hc).2]
    rfl
  rw [e, hc]
  refine wE_cut hh ?_
  refine wEs_mono (fun e Q R => (wBoth_mono c n).1 e Q R) (fun ds' (h : ds' = ds) => ?_) hs
  subst h
  exact ⟨_, t, q⟩
theorem e_meth {sc : Scope} {vs : List (Str × D)} {glob : Str → Option Value} {ops : Ops} {n : Nat} {v : Expr} {a : Str} {apos pos : Pos} {es : List Expr} {r d : D} {ds : List D} {Q : D → Prop} (hc : (noSuper v && callOk es.length [] && apos.endLine == pos.line) = true) (hh : wE ⟨sc, ⟨vs, .none⟩, glob, ops⟩ n v (· = r)) (hs : wEs (wE ⟨sc, ⟨vs, .none⟩, glob, ops⟩ n) es (· = ds)) (t : ops.meth (.dat r) a ds [] = some d) (q : Q d) : wE ⟨sc, ⟨vs, .none⟩, glob, ops⟩ (n + 1) (.Call (.Attribute v a apos) es [] pos) Q := by
  show (match (noSuper v && callOk es.length [] && apos.endLine == pos.line) with
    | true => wE ⟨sc, ⟨vs, .none⟩, glob, ops⟩ n v fun r => wEs (wE ⟨sc, ⟨vs, .none⟩, glob, ops⟩ n) es fun ds => wKs (wE ⟨sc, ⟨vs, .none⟩, glob, ops⟩ n) [] fun ks => W (ops.meth (.dat r) a ds ks) Q
    | false => False)
  rw [hc]
  refine wE_cut hh ?_
  refine wEs_mono (fun e Q R => (wBoth_mono _ n).1 e Q R) (fun ds' (h : ds' = ds) => ?_) hs
  subst h
  exact ⟨_, t, q⟩
noncomputable def L777 (P : Params) : List Stmt := bodyFor ((bodyOf (F777 P)).getD 8 default)
section
variable {n m' : Nat} {N M g a b c : Int} {p q : List Str} {s r : Str} {k : Bool} {others : List D} {vs : List (Str × D)} {Q : QX}
structure CaseN (vs : List (Str × D)) (M : Int) (s r : Str) (k : Bool) (a b c : Int) (p q : List Str) : Prop where
  m : Lk vs "m" (.int M)
  sign : Lk vs "sign" (.str s)
  rule : Lk vs "rule" (.str r)
  keen : Lk vs "keen" (.bool k)
  target : Lk vs "target" (partsD a b c p q)
  clause : Lk vs "clause" (rngD s (verD a b c p q) r (wayS k))
theorem isnot_b {x y : Bool} (h : x = y) : (OO P (n + 1)).cmp .IsNot (.bool x) (.bool y) = some (.bool false) := by
  subst h
  show ((isD (.bool x) (.bool x)).map fun t => D.bool (!t)) = _
  cases x <;> rfl
theorem turn777 {o : D} (hs : s ∈ signs) (hp : p ∈ pres) (hq : q ∈ blds) (ha : Small a) (hk : k = false → q = []) (ho : OtherOk a o) (V : CaseN vs M s r k a b c p q)
    (h : Q .next ⟨("other", o) :: vs, .none⟩) : wX (ctx (OO P (n + 20)) (F777 P) 777) (m' + 3) ⟨("other", o) :: vs, .none⟩ (L777 P) Q := by
  obtain ⟨b', c', p', q', rfl, hb', hc', hp', hq'⟩ := ho
  refine x_if false (t_cmp rfl (e_meth rfl (e_nm (nm rfl V.clause) rfl) (wEs_cons rfl (e_call rfl rfl (wEs_cons rfl rfl (wEs_cons rfl (e_nm (nm rfl V.m) rfl) (wEs_nil rfl))) (call_made ha hb'.small hc'.small hp' hq') rfl) (wEs_nil rfl)) (m_match hs hp hp' hq hq') rfl) (e_call rfl rfl (wEs_cons rfl (e_nm (nm rfl V.sign) rfl) (wEs_cons rfl (e_nm (nm rfl V.rule) rfl) (wEs_cons rfl (e_nm (nm rfl V.keen) rfl) (wEs_cons rfl (e_nm (nm rfl V.target) rfl) (wEs_cons rfl rfl (wEs_nil rfl)))))) (call_holds hs hp hp') rfl) (isnot_b (match_holds hs hp hp' hk)) tru_b rfl) (x_done (x_nil h))
end
end Mine
end
section
open PySem PySem.W PyProof.Rows
set_option maxRecDepth 1000000
set_option maxHeartbeats 1000000
namespace Mine
variable {P : Params}
theorem wKs_cons {F : EP} {nm : Str} {e : Expr} {p : Pos} {r : List Keyword} {Q : List (Str × D) → Prop} (h : F e fun d => wKs F r fun ds => Q ((nm, d) :: ds)) : wKs F (⟨some nm, e, p⟩ :: r) Q := h
theorem wKs_cut {c : PC} {n : Nat} {nm : Str} {e : Expr} {p : Pos} {r : List Keyword} {d : D} {Q : List (Str × D) → Prop} (h : wE c n e (· = d)) (k : wKs (wE c n) r fun ds => Q ((nm, d) :: ds)) : wKs (wE c n) (⟨some nm, e, p⟩ :: r) Q := wKs_cons (wE_cut (c := c) (n := n) h k)
theorem e_callk {c : PC} {n : Nat} {x : Str} {p pos : Pos} {es : List Expr} {kw : Keyword} {kws : List Keyword} {h d : D} {ds : List D} {ks : List (Str × D)} {Q : D → Prop} (hc : (callOk es.length (kw :: kws) && noGen es) = true) (hh : wE c n (.Name x p) (· = h)) (hs : wEs (wE c n) es (· = ds)) (hks : wKs (wE c n) (kw :: kws) (· = ks)) (t : c.ops.call h ds ks = some d) (q : Q d) : wE c (n + 1) (.Call (.Name x p) es (kw :: kws) pos) Q := by
  have e : wE c (n + 1) (.Call (.Name x p) es (kw :: kws) pos) Q = (match (callOk es.length (kw :: kws) && noGen es) with
      | true => wE c n (.Name x p) fun h => wEs (wE c n) es fun ds => wKs (wE c n) (kw :: kws) fun ks => W (c.ops.call h ds ks) Q
      | false => False) := by
    show wEStep c (wBoth c n).1 (wBoth c n).2 (.Call (.Name x p) es (kw :: kws) pos) Q = _
    simp only [wEStep, genOf_none (kws := kw :: kws) (Bool.and_eq_true_iff.mp hc).2]
    rfl
  rw [e, hc]
  refine wE_cut hh ?_
  refine wEs_mono (fun e Q R => (wBoth_mono c n).1 e Q R) (fun ds' (h : ds' = ds) => ?_) hs
  subst h
  refine wKs_mono (fun e Q R => (wBoth_mono c n).1 e Q R) (fun ks' (h : ks' = ks) => ?_) hks
  subst h
  exact ⟨_, t, q⟩
section
variable {n m' : Nat} {N M g a b c : Int} {p q : List Str} {s r : Str} {k k0 : Bool} {others : List D} {vs : List (Str × D)} {Q : QX}
structure CaseN2 (vs : List (Str × D)) (N M : Int) (s r : Str) (k0 : Bool) (a b c : Int) (p q : List Str) : Prop extends CaseN vs M s r (k0 || !q.isEmpty) a b c p q where
  n : Lk vs "n" (.int N)
  made : Lk vs "made" (verD a b c p q)
  way : Lk vs "way" (.str (wayS k0))
theorem CaseN2.more {o : D} (V : CaseN2 vs N M s r k0 a b c p q) : CaseN2 (("other", o) :: vs) N M s r k0 a b c p q := ⟨⟨V.m, V.sign, V.rule, V.keen, V.target, V.clause⟩, V.n, V.made, V.way⟩
theorem loop777 (hs : s ∈ signs) (hp : p ∈ pres) (hq : q ∈ blds) (ha : Small a) {xp : Pos} : ∀ {ds : List D} {vs : List (Str × D)}, (∀ o ∈ ds, OtherOk a o) → CaseN2 vs N M s r k0 a b c p q →
    (∀ vs', CaseN2 vs' N M s r k0 a b c p q → Q .next ⟨vs', .none⟩) → wLoop (ctx (OO P (n + 20)) (F777 P) 777) (.Name "other" xp) (fun ρ Q => wX (ctx (OO P (n + 20)) (F777 P) 777) (m' + 3) ρ (L777 P) Q) ds ⟨vs, .none⟩ Q
  | [], vs, ho, V, h => h vs V
  | d :: ds, vs, ho, V, h => by
    unfold wLoop
    refine ⟨⟨("other", d) :: vs, .none⟩, rfl, ?_⟩
    refine turn777 hs hp hq ha (k := k0 || !q.isEmpty) (fun e => ?_) (ho d (.head _)) V.toCaseN ?_
    · rw [Bool.or_eq_false_iff, Bool.not_eq_false'] at e
      exact List.isEmpty_iff.mp e.2
    · exact loop777 hs hp hq ha (fun o hm => ho o (.tail _ hm)) V.more h
theorem way_keen : (if q.isEmpty then wayS k0 else "strict") = wayS (k0 || !q.isEmpty) := by
  cases q.isEmpty <;> cases k0 <;> rfl
end
end Mine
end
section
open PySem PySem.W PyProof.Rows
set_option maxRecDepth 1000000
set_option maxHeartbeats 1000000
namespace Mine
variable {P : Params}
section
variable {n m' : Nat} {N M g a b c : Int} {p q : List Str} {s r : Str} {k k0 : Bool} {others : List D} {vs : List (Str × D)} {Q : QX}
theorem eqV_refl : eqV a b c p q a b c p q = true := by unfold eqV; simp
theorem eqR_refl : eqR s r a b c p q s r b c p q = true := by unfold eqR; rw [eqV_refl]; simp
theorem sign_len : ∀ s ∈ signs, s.length ≤ 2 := by decide
/-- the case's names behind the try -/
noncomputable def doneV (N M g : Int) (s r : Str) (k0 : Bool) (a b c : Int) (p q : List Str) (others : List D) : List (Str × D) := ("clause", rngD s (verD a b c p q) r (wayS (k0 || !q.isEmpty))) :: caseV N M g s r k0 a b c p q others
theorem doneN : CaseN2 (doneV N M g s r k0 a b c p q others) N M s r k0 a b c p q := ⟨⟨rfl, rfl, rfl, rfl, rfl, rfl⟩, rfl, rfl, rfl⟩
theorem mkRk (hl : q.length ≤ 900) (hok : q = [] ∨ isE s = true) : (OO P (n + 2)).call (.glob (.ref 700)) [.str s, verD a b c p q] [("prerelease_policy", .str r), ("build_policy", .str (wayS k0))] = some (rngD s (verD a b c p q) r (wayS (k0 || !q.isEmpty))) := by
  rw [← way_keen]; exact mkR hl hok
theorem eqR_rule {r' : Str} (h : (r == r') = false) : eqR s r a b c p q s r' b c p q = false := by unfold eqR; rw [h]; simp
theorem eqR_sign {s' : Str} (h : (s == s') = false) : eqR s r a b c p q s' r b c p q = false := by unfold eqR; rw [h]; rfl
theorem eqR_turn : eqR s r a b c p q s r b (c + 1) p q = false := by
  have : (c == c + 1) = false := by rw [beq_eq_false_iff_ne]; omega
  unfold eqR eqV; rw [this]; simp
theorem eqR_z : eqR s r a b c p q s r b c p (q ++ [("z" : Str)]) = false := by
  have : (q == q ++ [("z" : Str)]) = false := by
    rw [beq_eq_false_iff_ne]
    intro e
    have := congrArg List.length e
    rw [List.length_append] at this
    simp at this
  unfold eqR eqV; rw [this]; simp
theorem next_rule {x : Int} {r r' : Str} (h : itemD (.list ruleL) (.int (x.fmod 3)) = some (.str r)) (h' : itemD (.list ruleL) (.int ((x + 1).fmod 3)) = some (.str r')) : (r == r') = false := by
  have e1 : x.fmod 3 = x % 3 := Int.fmod_eq_emod_of_nonneg x (by decide)
  have e2 : (x + 1).fmod 3 = (x + 1) % 3 := Int.fmod_eq_emod_of_nonneg (x + 1) (by decide)
  rw [e1] at h
  rw [e2] at h'
  have i0 : itemD (.list ruleL) (.int 0) = some (.str "natural") := by kernel_rfl
  have i1 : itemD (.list ruleL) (.int 1) = some (.str "always") := by kernel_rfl
  have i2 : itemD (.list ruleL) (.int 2) = some (.str "same-patch") := by kernel_rfl
  have h3 : x % 3 = 0 ∨ x % 3 = 1 ∨ x % 3 = 2 := by omega
  rcases h3 with q | q | q
  · rw [q, i0] at h
    rw [show (x + 1) % 3 = 1 by omega, i1] at h'
    cases h; cases h'; decide
  · rw [q, i1] at h
    rw [show (x + 1) % 3 = 2 by omega, i2] at h'
    cases h; cases h'; decide
  · rw [q, i2] at h
    rw [show (x + 1) % 3 = 0 by omega, i0] at h'
    cases h; cases h'; decide
theorem addz : (OO P (n + 1)).bin .Add (stD q) (.tup [.str "z"]) = if q.length ≤ 900 then some (stD (q ++ [("z" : Str)])) else (OO P (n + 1)).bin .Add (stD q) (.tup [.str "z"]) := by
  split
  · rename_i hl
    refine bin_of ?_
    show (if (q.map D.str).length + 1 ≤ 1000 then some (D.tup (q.map D.str ++ [.str "z"])) else none) = _
    rw [if_pos (by rw [List.length_map]; omega)]
    unfold stD
    rw [List.map_append]
    rfl
  · rfl
/-- the last three askings -/
theorem last777 (hs : s ∈ signs) (hr : r ∈ rules) (hp : p ∈ pres) (hq : q ∈ blds0) (ha : Small a) (hb : Few b) (hc : Few c) (hok : q = [] ∨ isE s = true) (hrule : itemD (.list ruleL) (.int ((N.fdiv 6).fmod 3)) = some (.str r)) (V : CaseN2 vs N M s r k0 a b c p q) :
    wX (ctx (OO P (n + 20)) (F777 P) 777) 51 ⟨vs, .none⟩ ((bodyOf (F777 P)).drop 9) (endQ (.bool true)) := by
  have hq' := (blds0_blds q hq).1
  have hpl := (pres_ids p hp).2
  have hql := (blds_ids q hq').2
  have N1 := V.toCaseN
  refine x_asg (d := rngD s (verD a b c p q) r (wayS (k0 || !q.isEmpty))) rfl (e_callk rfl rfl (wEs_cons rfl (e_nm (nm rfl N1.sign) rfl) (wEs_cons rfl (e_call rfl rfl (wEs_cons rfl (e_nm (nm rfl N1.target) rfl) (wEs_cons rfl (e_bin (e_nm (nm rfl V.n) rfl) rfl add_i rfl) (wEs_nil rfl))) (call_made ha hb.small hc.small hp hq') rfl) (wEs_nil rfl))) (wKs_cut (e_nm (nm rfl N1.rule) rfl) (wKs_cut (e_nm (nm rfl V.way) rfl) rfl)) (mkRk hql hok) rfl) ?_
  have hc1 : Small (c + 1) := hc.succ.small
  have t0 : ∀ {V' : List (Str × D)}, Lk V' "target" (partsD a b c p q) → Lk V' "target" (partsD a b c p q) := fun h => h
  refine x_asg (d := verD a b (c + 1) p q) rfl (e_call rfl rfl (wEs_cons rfl (e_lst (wEs_cons rfl (e_tup (wEs_cons rfl (e_item rfl (e_item rfl (e_nm (nm rfl N1.target) rfl) rfl rfl rfl) rfl rfl rfl) (wEs_cons rfl (e_item rfl (e_item rfl (e_nm (nm rfl N1.target) rfl) rfl rfl rfl) rfl rfl rfl) (wEs_cons rfl (e_bin (e_item rfl (e_item rfl (e_nm (nm rfl N1.target) rfl) rfl rfl rfl) rfl rfl rfl) rfl add_i rfl) (wEs_nil rfl)))) rfl rfl) (wEs_cons rfl (e_item rfl (e_nm (nm rfl N1.target) rfl) rfl rfl rfl) (wEs_cons rfl (e_item rfl (e_nm (nm rfl N1.target) rfl) rfl rfl rfl) (wEs_nil rfl)))) rfl rfl) (wEs_cons rfl (e_nm (nm rfl V.n) rfl) (wEs_nil rfl))) (call_made ha hb.small hc1 hp hq') rfl) ?_
  refine x_if false (t_or false (t_not (t := true) (t_cmp rfl (e_nm (nm rfl N1.clause) rfl) rfl ((R_eq hpl hpl hql hql).trans (by rw [eqR_refl])) tru_b rfl) rfl) (t_or false (t_cmp rfl (e_nm (nm rfl N1.clause) rfl) rfl ((R_ne hpl hpl hql hql).trans (by rw [eqR_refl]; rfl)) tru_b rfl) (t_or false (t_cmp rfl (e_nm (nm rfl N1.clause) rfl) (e_callk rfl rfl (wEs_cons rfl (e_nm (nm rfl N1.sign) rfl) (wEs_cons rfl rfl (wEs_nil rfl))) (wKs_cut (e_nm (nm rfl N1.rule) rfl) (wKs_cut (e_nm (nm rfl V.way) rfl) rfl)) (mkRk hql hok) rfl) ((R_eq hpl hpl hql hql).trans (by rw [eqR_turn])) tru_b rfl) (t_nil rfl)))) (x_done ?_)
  obtain ⟨dr, mr, er⟩ := pick (P := P) (n := n + 19) (l := ruleL) (x := N.fdiv 6 + 1) (m := 3) (by decide) rfl (by decide)
  obtain ⟨r', hr', rfl⟩ := mem_rule mr
  have hrr : (r == r') = false := next_rule hrule er
  refine x_if false (t_cmp rfl (e_nm (nm rfl N1.clause) rfl) (e_callk rfl rfl (wEs_cons rfl (e_nm (nm rfl N1.sign) rfl) (wEs_cons rfl (e_nm (nm rfl V.made) rfl) (wEs_nil rfl))) (wKs_cut (e_item rfl ⟨_, c716, rfl⟩ (e_bin (e_bin (e_bin (e_nm (nm rfl V.n) rfl) rfl (div_i rfl (dv (by decide +kernel))) rfl) rfl add_i rfl) rfl (mod_i rfl) rfl) er rfl) (wKs_cut (e_nm (nm rfl V.way) rfl) rfl)) (mkRk hql hok) rfl) ((R_eq hpl hpl hql hql).trans (by rw [eqR_rule hrr])) tru_b rfl) (x_done ?_)
  refine x_if (isE s) (t_cmp rfl (e_nm (nm rfl N1.sign) rfl) rfl in2 tru_b rfl) ?_
  cases hE : isE s
  · exact x_done (x_ret rfl rfl)
  have hz := (blds0_blds q hq).2
  have hzl := (blds_ids _ hz).2
  have az : (OO P (n + 20)).bin .Add (stD q) (.tup [.str "z"]) = some (stD (q ++ [("z" : Str)])) := (addz (n := n + 19)).trans (if_pos hql)
  refine x_asg (d := rngD s (verD a b c p (q ++ [("z" : Str)])) r (if (q ++ [("z" : Str)]).isEmpty then "implicit" else "strict")) rfl (e_callk rfl rfl (wEs_cons rfl (e_nm (nm rfl N1.sign) rfl) (wEs_cons rfl (e_call rfl rfl (wEs_cons rfl (e_lst (wEs_cons rfl (e_item rfl (e_nm (nm rfl N1.target) rfl) rfl rfl rfl) (wEs_cons rfl (e_item rfl (e_nm (nm rfl N1.target) rfl) rfl rfl rfl) (wEs_cons rfl (e_bin (e_item rfl (e_nm (nm rfl N1.target) rfl) rfl rfl rfl) rfl az rfl) (wEs_nil rfl)))) rfl rfl) (wEs_cons rfl (e_nm (nm rfl V.n) rfl) (wEs_nil rfl))) (call_made ha hb.small hc.small hp hz) rfl) (wEs_nil rfl))) (wKs_cut (e_nm (nm rfl N1.rule) rfl) rfl) (mkR3 hzl (.inr hE)) rfl) ?_
  have hs' : isE (if s == "!=" then "==" else "!=") = true ∧ (s == (if s == "!=" then ("==" : Str) else "!=")) = false := by
    cases h : s == "!="
    · exact ⟨rfl, h⟩
    · rw [eq_of_beq h]; exact ⟨rfl, rfl⟩
  refine x_ret (d := .bool true) (e_andB (t := true) (fun _ => rfl) (e_cmp rfl (e_nm (nm rfl N1.clause) rfl) rfl ((R_ne hpl hpl hql hzl).trans (by rw [eqR_z]; rfl)) rfl) (fun _ => ?_) (fun h => by cases h)) rfl
  refine e_one (e_cmp rfl (e_nm (nm rfl N1.clause) rfl) (e_callk rfl rfl (wEs_cons (d := .str (if s == "!=" then "==" else "!=")) rfl (e_if (s == "!=") (t_cmp rfl (e_nm (nm rfl N1.sign) rfl) rfl cmp_str tru_b rfl) ?_) (wEs_cons rfl (e_nm (nm rfl V.made) rfl) (wEs_nil rfl))) (wKs_cut (e_nm (nm rfl N1.rule) rfl) (wKs_cut (e_nm (nm rfl V.way) rfl) rfl)) (mkRk hql (.inr hs'.1)) rfl) ((R_ne hpl hpl hql hql).trans (by rw [eqR_sign hs'.2]; rfl)) rfl)
  cases s == "!=" <;> rfl
end
end Mine
end
section
open PySem PySem.W PyProof.Rows
set_option maxRecDepth 1000000
set_option maxHeartbeats 1000000
namespace Mine
variable {P : Params}
section
variable {n m' : Nat} {N M g a b c : Int} {p q : List Str} {s r : Str} {k k0 : Bool} {others : List D} {vs : List (Str × D)} {Q : QX}
theorem cat' {x y : Str} (h : x.length + y.length ≤ 3000) : (OO P (n + 1)).bin .Add (.str x) (.str y) = some (.str (x ++ y)) := cat h
/-- behind the try -/
theorem rest777 (hs : s ∈ signs) (hr : r ∈ rules) (hp : p ∈ pres) (hq : q ∈ blds0) (ha : Small a) (hb : Few b) (hc : Few c) (hok : q = [] ∨ isE s = true) (hrule : itemD (.list ruleL) (.int ((N.fdiv 6).fmod 3)) = some (.str r)) (ho : ∀ o ∈ others, OtherOk a o) :
    wX (ctx (OO P (n + 20)) (F777 P) 777) 54 ⟨doneV N M g s r k0 a b c p q others, .none⟩ ((bodyOf (F777 P)).drop 6) (endQ (.bool true)) := by
  have hq' := (blds0_blds q hq).1
  have hpl := (pres_ids p hp).2
  have hql := (blds_ids q hq').2
  have hsl := sign_len s hs
  have htl := text_len ha hb.small hc.small hp hq'
  have hw : (!q.isEmpty && !isE s) = false := by
    rcases hok with rfl | h
    · rfl
    · rw [h]; simp
  have ne : ∀ x : Str, (x != x) = false := fun x => by simp
  refine x_if false (t_or false ⟨_, tru_b, hw⟩ (t_or false ⟨_, r_op, _, cmp_strN, _, tru_b, ne _⟩ (t_or false (t_not (t := true) ⟨_, r_tgt rfl, _, v_eq hpl hpl hql hql, _, tru_b, eqV_refl⟩ rfl) (t_or false ⟨_, r_pp, _, cmp_strN, _, tru_b, ne _⟩ (t_nil rfl))))) (x_done ?_)
  refine x_if false (t_or false (t_cmp (b := .str (wayS (k0 || !q.isEmpty))) rfl ⟨_, r_bp, rfl⟩ (e_if (k0 || !q.isEmpty) ⟨_, tru_b, rfl⟩ ?_) cmp_strN tru_b (ne _)) (t_or false (t_cmp (a := .str (s ++ textS a b c p q)) (b := .str (s ++ textS a b c p q)) rfl ⟨_, str_rng hsl ha hb.tiny hc.tiny hp hq', rfl⟩ ⟨_, call_text742 ha hb.small hc.small hp hq', _, cat' (by omega), rfl⟩ cmp_strN tru_b (ne _)) (t_nil rfl))) (x_done ?_)
  · cases (k0 || !q.isEmpty) <;> rfl
  refine x_for (l := others) rfl rfl ?_
  refine loop777 (m' := 48) hs hp hq' ha ho doneN fun vs' V => ?_
  exact last777 hs hr hp hq ha hb hc hok hrule V
/-- the try's one statement, where it does not raise -/
theorem try777 (hp : p ∈ pres) (hq : q ∈ blds0) (hok : q = [] ∨ isE s = true) :
    wX (ctx (OO P (n + 20)) (F777 P) 777) 54 ⟨caseV N M g s r k0 a b c p q others, .none⟩ ((match (bodyOf (F777 P)).getD 5 default with | .Try b _ _ _ _ => b | _ => [])) (fun fl ρ => fl = .next ∧ ρ = ⟨doneV N M g s r k0 a b c p q others, .none⟩) := by
  have hql := (blds_ids q (blds0_blds q hq).1).2
  exact x_asg (d := rngD s (verD a b c p q) r (wayS (k0 || !q.isEmpty))) rfl ⟨_, mkRk hql hok, rfl⟩ (x_nil ⟨rfl, rfl⟩)
end
end Mine
end
section
open PySem PySem.W PyProof.Rows
set_option maxRecDepth 100000
namespace Mine
section
variable {prog : Program} {w : World} {K : Frag} {B : Nat} (k : Kok K B) {n : Nat} {A : Around} (hA : Room A (n + 1))
include k hA in
/-- a construction goes on as its __init__'s body does -/
theorem make_body {C f : Addr} {args : List D} {kws : List (Str × D)} {fd : FuncData} {body : List Stmt} {dd : List D} {p0 : Arg} {prest : List Arg} {b : List (Str × D)} (hm : makesIn K C = true) (hi : findIn K (.ref C) "__init__" = some (some (.ref f))) (hft : typeIn K (.ref f) = some (.type "function")) (hf : fnAt K f = some fd) (hgood : fnGood K fd = true) (hbody : fd.body = .stmts body) (hdd : dfl K fd.defaults = some dd) (hpar : fd.params.args = p0 :: prest) (hb : bindL (fd.params.args.map (·.arg)) (.glob .none :: args) kws dd = some b)
    (hloc : ((b.all fun y => fd.scope.names.lookup y.1 == some .local) && selfBound (b.reverse.lookup p0.arg) && args.all notGlob && kws.all (fun y => notGlob y.2) && dd.all notGlob && fd.scope.names.lookup p0.arg == some .local && b.all (fun y => y.1 == p0.arg || notGlob y.2)) = true)
    {O : List Addr} {s : Shared} (I : Inv K B s) (hO : OLow O s) {vs kv : List Value} (ra : RepL O s.heap vs args) (rk : RepL O s.heap kv (kws.map (·.2))) {Q E : Value → Shared → Prop}
    (hrun : ∀ A' env L O' N s₁, Room A' n → A'.frames = A.frames.map (env :: ·) → env.frame = some L → s.heap.objs.size ≤ L → EnvOk env L → ScIs K env fd.scope → St K B (L :: O') [L, s.heap.objs.size, s.heap.objs.size + 1] N ⟨(b.filter (·.1 != p0.arg)).reverse, .inst p0.arg C []⟩ L s₁ → OLow (L :: O') s₁ → Stp [] s s₁ → (∀ a ∈ O, a ∈ L :: O') → ∃ E', wpAny (model prog w) A' (execs body env) (fun fl s' => retVal fl = Value.none ∧ Q (.ref (s.heap.objs.size + 1)) s') E' s₁ ∧ ∀ e s', E' e s' → wpAny (model prog w) A' (leaving env e) (fun _ s'' => E e s'') E s') :
    wpAny (model prog w) A (call (.ref C) vs ((kws.map (·.1)).zip kv)) Q E s := by
  obtain ⟨oc, od, osl, hl⟩ := fnAt_get hf
  unfold fnGood at hgood
  simp only [Bool.and_eq_true, beq_iff_eq, Bool.not_eq_true'] at hgood
  obtain ⟨⟨⟨⟨⟨⟨⟨⟨hp, hcd⟩, hgl⟩, hbl⟩, hco⟩, hgen⟩, hk⟩, hcell⟩, hct⟩ := hgood
  simp only [Bool.and_eq_true, beq_iff_eq] at hloc
  obtain ⟨⟨⟨⟨⟨⟨hloc, hself⟩, hga⟩, hgk⟩, hgd⟩, hsl⟩, hbg⟩ := hloc
  have hself' : b.reverse.lookup p0.arg = some (.glob .none) := by
    unfold selfBound at hself
    split at hself
    · rename_i e; exact e
    · cases hself
  obtain ⟨hh, g, dr, tk, os⟩ := s
  obtain ⟨X, lim, tok, base, tabsI, glob⟩ := id I
  let s : Shared := ⟨hh, g, dr, tk, os⟩
  let x : Addr := hh.objs.size + 1
  let dx : Addr := hh.objs.size
  let h2 : Heap := (hh.push emptyDict).push (instObj C hh.objs.size)
  let s2 : Shared := ⟨h2, g, dr, tk, os⟩
  have P1 : Stp [] s ⟨hh.push emptyDict, g, dr, tk, os⟩ := .push ..
  have P2 : Stp [] (⟨hh.push emptyDict, g, dr, tk, os⟩ : Shared) s2 := .push ..
  have P : Stp [] s s2 := P1.tr P2
  have gx : h2.get? x = some (instObj C dx) := by
    have e : ((hh.push emptyDict).push (instObj C dx)).get? (hh.push emptyDict).objs.size = some (instObj C dx) := Heap.get?_push_size _ rfl
    rwa [Heap.size_push] at e
  have gd : h2.get? dx = some (dictOf [] 0) := Heap.get?_push_of_some _ (Heap.get?_push_size _ rfl)
  have hz2 : h2.objs.size = hh.objs.size + 2 := by
    show ((hh.push emptyDict).push _).objs.size = _
    rw [Heap.size_push, Heap.size_push]
  refine wpAny_call (make_core (makes_of X hm) (looks_findIn X hi) (fun self => bind_fn X self hft) (.inl rfl) ?_)
  let O1 : List Addr := x :: dx :: O
  have memO1 : ∀ b, b ∈ O1 → hh.objs.size ≤ b ∨ b ∈ O := fun b hb => by
    rcases List.mem_cons.mp hb with q | hb
    · exact .inl (by rw [q]; exact Nat.le_succ _)
    · rcases List.mem_cons.mp hb with q | hb
      · exact .inl (by rw [q]; exact Nat.le_refl _)
      · exact .inr hb
  have sub1 : ∀ b o, b ∈ O1 → hh.get? b = some o → b ∈ O := fun b o hb e => (memO1 b hb).elim (fun q => absurd (Heap.lt_size e) (Nat.not_lt.mpr q)) id
  let RR : Value → D → Prop := fun v d => (notGlob d = true ∧ Rep O1 h2 v d) ∨ (v = .ref x ∧ d = .glob .none)
  have bind : ∃ bv, BindsTo s2 fd ⟨.ref x :: vs, (kws.map (·.1)).zip kv⟩ bv ∧ RepB RR bv b := by
    have a1 : AllR RR (.ref x :: vs) (.glob .none :: args) := .cons (.inr ⟨rfl, rfl⟩) (((ra.keep (O' := O1) (fun _ _ e _ _ => e) sub1).on P).allG hga)
    have a2 : RepB RR ((kws.map (·.1)).zip kv) kws := RepB.kw (((rk.keep (O' := O1) (fun _ _ e _ _ => e) sub1).on P).allG (by rw [List.all_map]; exact hgk))
    unfold dfl at hdd
    split at hdd
    · rename_i hd0
      cases hdd
      obtain ⟨bv, h1, h2⟩ := bindL_rep a1 a2 .nil hb
      obtain ⟨kk, e1, e2⟩ := bindArgs_eq (fd := fd) (args := ⟨.ref x :: vs, (kws.map (·.1)).zip kv⟩) (items := none) hp h1
      refine ⟨bv, BindsTo.of_eq ?_, h2⟩
      rw [e1, hd0, ← e2]
      rfl
    · rename_i T hd0
      split at hdd
      · rename_i oc' od' items nn osl' hT
        obtain ⟨bv, h1, h2⟩ := bindL_rep a1 a2 ((valsD_ok (O := O1) (h := h2) hdd).allG hgd) hb
        obtain ⟨kk, e1, e2⟩ := bindArgs_eq (fd := fd) (args := ⟨.ref x :: vs, (kws.map (·.1)).zip kv⟩) (items := some items) hp h1
        exact ⟨bv, BindsTo.of_defaults hd0 ((I.on k P).X _ _ hT) rfl e1 e2, h2⟩
      · cases hdd
    · cases hdd
  obtain ⟨bv, hbind, hrep⟩ := bind
  have I2 : Inv K B s2 := I.on k P
  refine codeAny_call_def (s := s2) (hroom := by
    show A.depth + Code.weight _ < _
    rw [weight_tc]
    have := hA.depth
    omega) (I2.X _ _ hl) rfl I2.lim (codeRec_of I2.X hcd) hbody hbind (fun y hy => ?_) (hrep.local hloc) (fun h₀ hns hk₀ => ?_) hco hgen hk
  · have := List.all_eq_true.mp hcell y hy
    simpa using this
  · have hLs : s2.heap.objs.size < h₀.objs.size := by
      obtain ⟨o, _, _, e, _⟩ := hns
      exact Heap.lt_size e
    have st : Stp [] s2 { s2 with heap := h₀, toks := s2.toks + bv.length } := .grow (Nat.le_of_lt hLs) hk₀ (Nat.le_add_right _ _)
    have inv : Inv K B { s2 with heap := h₀, toks := s2.toks + bv.length } := I2.on k st
    have hA' : Room ((A.under (.builtin "type.__call__" ⟨.ref C :: vs, (kws.map (·.1)).zip kv⟩)).deeper (callEnv fd s2.heap.objs.size f)) n := hA.tc
    have he : EnvOk (callEnv fd s2.heap.objs.size f) s2.heap.objs.size := ⟨hk, hgl, hbl, rfl⟩
    let L : Addr := s2.heap.objs.size
    have hxv : x = hh.objs.size + 1 := rfl
    have hdv : dx = hh.objs.size := rfl
    have hL2 : L = hh.objs.size + 2 := hz2
    have sub2 : ∀ b o, b ∈ L :: O1 → h2.get? b = some o → b ∈ O1 := fun b o hb e => (List.mem_cons.mp hb).elim (fun q => absurd (Heap.lt_size e) (by rw [q]; exact Nat.lt_irrefl _)) id
    have wid : ∀ {v d}, Rep O1 h2 v d → Rep (L :: O1) h₀ v d := fun r => (r.keep (O' := L :: O1) (fun _ _ e _ _ => e) sub2).on st
    have sto : St K B (L :: O1) [L, dx, x] hh.objs.size ⟨(b.filter (·.1 != p0.arg)).reverse, .inst p0.arg C []⟩ L { s2 with heap := h₀, toks := s2.toks + bv.length } := by
      refine ⟨inv, ⟨⟨_, hns, fun y d' e => ?_, ?_⟩, .head _, fun a ha => ?_⟩, base⟩
      · have e' : ((b.filter (·.1 != p0.arg)).reverse).lookup y = some d' := e
        have hy : y ≠ p0.arg := by
          rintro rfl
          rw [lookup_rev_filter_self] at e'
          cases e'
        rw [lookup_rev_filter hy] at e'
        rcases hrep.rev.look y with ⟨_, z⟩ | ⟨v, d2, z1, z2, r⟩
        · rw [z] at e'; cases e'
        · rw [z2] at e'; cases e'
          rcases r with ⟨_, r⟩ | ⟨_, rfl⟩
          · exact ⟨v, z1, wid r⟩
          · have hmem := lookup_mem z2
            have := List.all_eq_true.mp hbg _ (List.mem_reverse.mp hmem)
            rw [Bool.or_eq_true, beq_iff_eq] at this
            exact absurd (this.resolve_left hy) (by simp [notGlob])
      · refine ⟨x, dx, [], 0, ?_, rfl, .tail _ (.head _), ?_, ?_, hk₀ _ _ gx, hk₀ _ _ gd, .nil⟩
        · rcases hrep.rev.look p0.arg with ⟨_, z⟩ | ⟨v, d2, z1, z2, r⟩
          · rw [hself'] at z; cases z
          · rw [hself'] at z2
            cases z2
            rcases r with ⟨r, _⟩ | ⟨r, _⟩
            · cases r
            · rw [r] at z1; exact z1
        · exact Nat.ne_of_lt (Nat.lt_of_lt_of_eq (Nat.lt_add_of_pos_right (by decide)) hL2.symm)
        · exact Nat.succ_ne_self _
      · show a ∈ L :: O1 ∧ hh.objs.size ≤ a
        rcases List.mem_cons.mp ha with q | ha
        · exact ⟨q ▸ .head _, by rw [q]; exact Nat.le_trans (Nat.le_add_right _ 2) (Nat.le_of_eq hL2.symm)⟩
        · rcases List.mem_cons.mp ha with q | ha
          · exact ⟨q ▸ .tail _ (.tail _ (.head _)), by rw [q]; exact Nat.le_refl _⟩
          · exact ⟨(List.mem_singleton.mp ha) ▸ .tail _ (.head _), by rw [List.mem_singleton.mp ha]; exact Nat.le_succ _⟩
    have low : OLow (L :: O1) { s2 with heap := h₀, toks := s2.toks + bv.length } := fun a ha => by
      have hlt : h2.objs.size < h₀.objs.size := hLs
      show a < h₀.objs.size
      rcases List.mem_cons.mp ha with q | ha
      · rw [q]; exact hLs
      · rcases List.mem_cons.mp ha with q | ha
        · rw [q]; exact Nat.lt_trans (Heap.lt_size gx) hlt
        · rcases List.mem_cons.mp ha with q | ha
          · rw [q]; exact Nat.lt_trans (Heap.lt_size gd) hlt
          · exact Nat.lt_of_lt_of_le (hO a ha) (Nat.le_trans P.size (Nat.le_of_lt hlt))
    have h00 : ∀ a ∈ O, a ∈ L :: O1 := fun a ha => .tail _ (.tail _ (.tail _ ha))
    obtain ⟨E', w1, w2⟩ := hrun _ (callEnv fd s2.heap.objs.size f) L O1 _ { s2 with heap := h₀, toks := s2.toks + bv.length } hA' (by
      have : (A.under (.builtin "type.__call__" ⟨.ref C :: vs, (kws.map (·.1)).zip kv⟩)).frames = pushEnvs (Code.envs (.builtin "type.__call__" ⟨.ref C :: vs, (kws.map (·.1)).zip kv⟩)) A.frames := rfl
      rw [envs_tc] at this
      show Option.map _ (A.under _).frames = _
      rw [this]
      obtain ⟨l, e⟩ := hA.frames
      rw [e]
      rfl) rfl (Nat.le_trans (Nat.le_add_right _ 2) (Nat.le_of_eq hL2.symm)) he ⟨rfl, fun _ => hct⟩ sto low (P.trans st) h00
    refine wpAny_mono w1 (fun fl s' z => ?_) fun e s' z => ?_
    · exact z
    · exact w2 e s' z
end
end Mine
end
section
open PySem PySem.W PyProof.Rows
set_option maxRecDepth 100000
namespace Mine
section
variable {prog : Program} {w : World} {K : Frag} {B : Nat} (k : Kok K B) {n : Nat} {c : FC} (ok : OpsOk prog w K B n c.ops) (hg : ∀ x v, c.glob x = some v → globIn K x = some v)
variable {A : Around} (hA : Room A n) {N : Nat} {L : Addr} {env : Env} (he : EnvOk env L) (hsc : ScIs K env c.sc)
include k ok hg hA he hsc in
theorem raise_ok {O W : List Addr} {ρ : PE} {s : Shared} {np cpos pos : Pos} {e : Expr} {d : D} (hs : St K B O W N ρ L s) (hO : OLow O s) (hst : notStar e = true) (hn : ev (c.pc ρ) c.fuel (.Name "ValueError" np) = some (.glob (.type "ValueError"))) (hx : ev (c.pc ρ) c.fuel e = some d)
    {Q : Flow → Shared → Prop} {E : Value → Shared → Prop} (q : ∀ a s₂ h' args, Stp [] s s₂ → Heap.MadeExc s₂.heap h' a "ValueError" args → E (.ref a) { s₂ with heap := h' }) : wpAny (model prog w) A (exec (.Raise (some (.Call (.Name "ValueError" np) [e] [] cpos)) none pos) env) Q E s := by
  have st1 : starEach [e] env = (false, eval e env) :: starEach [] env := by cases e <;> first | rfl | cases hst
  have hp : (backTo cpos (starEach [e] env)).any (·.1) = false := by rw [st1]; rfl
  refine wpAny_Raise_call PySem.F.excCall_ValueError PySem.F.excRaise_ValueError hA.handled hp ?_
  refine ev_ok (c := c.pc ρ) k ok hg hA he hsc hn s hs hO _ _ fun v s₁ x r => ?_
  refine ⟨r.inv, ?_⟩
  have main := evs_ok (c := c.pc ρ) k (f := ev (c.pc ρ) c.fuel) (fun e d h => ev_ok (c := c.pc ρ) k ok hg hA he hsc h) cpos (es := [e]) (ds := [d]) (by unfold evsWith; rw [if_pos hst, hx]; rfl) s₁ (hs.on k x) (hO.on x)
  rw [st1] at main ⊢
  refine Calls.evalArgs_plain (main _ _ fun vs s₂ y rs => ?_)
  exact ⟨rfl, by rw [rs.length]; exact (show 1 ≤ sizeLine by decide), fun h' a hm => q a s₂ h' vs (x.tr y) hm⟩
end
end Mine
end
section
open PySem PySem.W PyProof.Rows
set_option maxRecDepth 100000
namespace Mine
section
variable {prog : Program} {w : World} {K : Frag} {B : Nat} (k : Kok K B) {n : Nat} {c : FC} (ok : OpsOk prog w K B n c.ops) (hg : ∀ x v, c.glob x = some v → globIn K x = some v) (hset : ∀ C x, c.setOk C x = true → settable K C x = true)
variable {A : Around} (hA : Room A n) {N : Nat} {L : Addr} {env : Env} (he : EnvOk env L) (hsc : ScIs K env c.sc) {O₀ : List Addr} (h₀ : ∀ a ∈ O₀, a < N)
include k ok hg hset hA he hsc h₀ in
/-- the first statements, and on -/
theorem exs_pre {post : List Stmt} {Q : Flow → Shared → Prop} {E : Value → Shared → Prop} {ρ' : PE} : ∀ (m : Nat) {ρ : PE} {pre : List Stmt} {O W : List Addr} {s : Shared}, exs c m ρ pre = some (.next, ρ') → St K B O W N ρ L s → OLow O s → (∀ a ∈ O₀, a ∈ O) →
    (∀ s' O' W', After K B O W N L s O' W' ρ' s' → wpAny (model prog w) A (execs post env) Q E s') → wpAny (model prog w) A (execs (pre ++ post) env) Q E s
  | 0, ρ, pre, O, W, s, h, hs, hO, h0, q => by cases pre <;> cases h
  | m + 1, ρ, [], O, W, s, h, hs, hO, h0, q => by
    cases h
    exact q _ _ _ (.here k hs hO (.refl _ _))
  | m + 1, ρ, st :: r, O, W, s, h, hs, hO, h0, q => by
    unfold exs at h
    split at h
    · rename_i ρ₁ h1
      refine wpAny_execs_cons (exStep_ok k ok hg hset hA he hsc h₀ (exs_ok k ok hg hset hA he hsc h₀ m) h1 hs hO h0 fun flv s' O' W' a fi => ?_)
      cases flv <;> first | exact fi.elim | skip
      exact exs_pre m h a.st a.low (fun b hb => a.oSup b (h0 b hb)) fun s₂ O₂ W₂ b => q _ _ _ (a.trans b)
    · rename_i hne
      exact (hne _ h).elim
end
end Mine
end
section
open PySem PySem.W PyProof.Rows
set_option maxRecDepth 100000
namespace Mine
/-- all frames stand -/
abbrev Frames (h : Heap) (l : List Env) : Prop := h.FunFrames {} l
theorem none_empty (a : Addr) : ({} : Heap).get? a = none := rfl
theorem Frames.on {s s' : Shared} {l : List Env} (x : Stp [] s s') (h : Frames s.heap l) : Frames s'.heap l :=
  Heap.FunFrames.of_keeps (fun b o e hn => ⟨o, x.keep b o e (fun q => by
    unfold IsTab at q
    obtain ⟨_, vs, q⟩ := q
    exact hn _ q) (by simp), rfl⟩) h
section
variable {prog : Program} {w : World} {K : Frag} {B : Nat} (k : Kok K B) {n : Nat} {A : Around} (hA : Room A (n + 1))
/-- an exception on its way, out of the frames l -/
noncomputable def Flies (z : Nat) (s₂ : Shared) (l : List Env) (a : Addr) (s' : Shared) : Prop := ∃ env L t h', env.frame = some L ∧ z ≤ L ∧ s' = { s₂ with heap := h' } ∧ (hideAll s₂.heap ((env :: l).filterMap (·.frame))).StaysIn h' ∧ Heap.FlyingW (hideAll s₂.heap ((env :: l).filterMap (·.frame))) l a (.type "ValueError") (.ref t) h' ∧ s₂.heap.UpToSlots h'
include k hA in
theorem make_raises {C f : Addr} {args : List D} {kws : List (Str × D)} {fd : FuncData} {body : List Stmt} {dd : List D} {p0 : Arg} {prest : List Arg} {b : List (Str × D)} (hm : makesIn K C = true) (hi : findIn K (.ref C) "__init__" = some (some (.ref f))) (hft : typeIn K (.ref f) = some (.type "function")) (hf : fnAt K f = some fd) (hgood : fnGood K fd = true) (hbody : fd.body = .stmts body) (hdd : dfl K fd.defaults = some dd) (hpar : fd.params.args = p0 :: prest) (hb : bindL (fd.params.args.map (·.arg)) (.glob .none :: args) kws dd = some b)
    (hloc : ((b.all fun y => fd.scope.names.lookup y.1 == some .local) && selfBound (b.reverse.lookup p0.arg) && args.all notGlob && kws.all (fun y => notGlob y.2) && dd.all notGlob && fd.scope.names.lookup p0.arg == some .local && b.all (fun y => y.1 == p0.arg || notGlob y.2)) = true)
    {O : List Addr} {s : Shared} (I : Inv K B s) (hO : OLow O s) {vs kv : List Value} (ra : RepL O s.heap vs args) (rk : RepL O s.heap kv (kws.map (·.2))) {outer : List Env} (hfr : A.frames = some outer) (hfun : Frames s.heap outer) {Q E : Value → Shared → Prop}
    (hrun : ∀ A' env L O' N W s₁, Room A' n → EnvOk env L → ScIs K env fd.scope → St K B (L :: O') W N ⟨(b.filter (·.1 != p0.arg)).reverse, .inst p0.arg C []⟩ L s₁ → OLow (L :: O') s₁ → ∀ E' : Value → Shared → Prop, (∀ a s₂ h' as, Stp [] s₁ s₂ → Heap.MadeExc s₂.heap h' a "ValueError" as → E' (.ref a) { s₂ with heap := h' }) → wpAny (model prog w) A' (execs body env) (fun _ _ => False) E' s₁)
    (hE : ∀ a s₂ s', Stp [] s s₂ → Flies s.heap.objs.size s₂ outer a s' → E (.ref a) s') :
    wpAny (model prog w) A (call (.ref C) vs ((kws.map (·.1)).zip kv)) Q E s := by
  refine make_body k hA hm hi hft hf hgood hbody hdd hpar hb hloc I hO ra rk fun A' env L O' N s₁ hA' hfr' hfL hzL he hsc hs hlow st hsub => ?_
  refine ⟨fun v s' => ∃ a s₂ h' as, v = .ref a ∧ Stp [] s₁ s₂ ∧ Heap.MadeExc s₂.heap h' a "ValueError" as ∧ s' = { s₂ with heap := h' }, wpAny_mono (hrun A' env L O' N _ s₁ hA' he hsc hs hlow _ fun a s₂ h' as x hm => ⟨a, s₂, h', as, rfl, x, hm, rfl⟩) (fun _ _ q => q.elim) fun _ _ q => q, ?_⟩
  rintro e s' ⟨a, s₂, h', as, rfl, x, hmade, rfl⟩
  have hfrm : A'.frames = some (env :: outer) := by rw [hfr', hfr]; rfl
  obtain ⟨m, ns, _, _⟩ := hs.loc.ns
  have ns2 := nsOn ns x (by simp)
  have fr2 : Frames s₂.heap outer := hfun.on (st.trans x |>.cut fun u hu => by simp at hu)
  have all2 : Frames s₂.heap (env :: outer) := Heap.FunFrames.cons (by rw [he.kind]; decide) hfL ns2 (none_empty L) fr2
  refine wpAny_leaves_madeW hfrm hfL (fun b o q => of_hideAll _ q) (funFrames_hide (as := (env :: outer).filterMap (·.frame)) all2 fun env' he' c hc => List.mem_filterMap.mpr ⟨env', he', hc⟩) hmade.of fun h₃ t x1 x2 x3 x4 => ?_
  exact hE a s₂ _ (st.trans x |>.cut fun u hu => by simp at hu) ⟨env, L, t, h₃, hfL, hzL, rfl, x1.1, x1, (Heap.UpToSlots.of_keeps hmade.keeps).trans x4⟩
end
end Mine
end
section
open PySem PySem.W PyProof.Rows
set_option maxRecDepth 100000
namespace Mine
theorem ve_notup : isSubtype (.type ((Manifest.find? "ValueError").elim "type" fun x => x.metatype)) (.type "tuple") = pure false := by rw [isSubtype_type]; kernel_rfl
section
variable {prog : Program} {w : World} {A : Around}
/-- `except ValueError:` at the frame of the try -/
theorem catch_ok {base : Heap} {env : Env} {outer : List Env} {L a t : Addr} {s' : Shared} {np pos : Pos} {rest : List ExceptHandler} {st0 : Stmt} {suite : List Stmt} {Q : Flow → Shared → Prop} {E : Value → Shared → Prop} (hfr : A.frames = some (env :: outer)) (hf : env.frame = some L) (hfl : Heap.FlyingW base (env :: outer) a (.type "ValueError") (.ref t) s'.heap)
    (hname : ∀ h', base.StaysIn h' → s'.heap.UpToSlots h' → ∀ (Q : Value → Shared → Prop) E, Q (.type "ValueError") { s' with heap := h' } → wpAny (model prog w) (A.mark (some (.ref a))) (eval (.Name "ValueError" np) env) Q E { s' with heap := h' })
    (hsuite : ∀ h', base.StaysIn h' → s'.heap.UpToSlots h' → ∀ E, wpAny (model prog w) (A.mark (some (.ref a))) (execs (st0 :: suite) env) Q E { s' with heap := h' }) :
    wpAny (model prog w) A (noteFrame (.ref a) env) (fun _ s₂ => wpAny (model prog w) A (setFlight (.ref a) none) (fun _ s₃ => wpAny (model prog w) A (handleBy (.ref a) env (.ExceptHandler (some (.Name "ValueError" np)) none (st0 :: suite) pos :: rest)) Q E s₃) E s₂) E s' := by
  refine wpAny_looks_onW hfr hf hfl fun h₄ hh₄ u4 => ?_
  refine wpAny_landsW hh₄ fun h₅ f5 u5 => ?_
  obtain ⟨ob, hob, hobc⟩ := f5.there
  refine wpAny_handleBy_builtin (X := "ValueError") (T := "ValueError") (b := true) PySem.F.excRaise_ValueError.isExc ve_notup PySem.F.excCall_ValueError.sub (hname h₅ f5.1 (u4.trans u5) _ _ ⟨rfl, ⟨ob, hob, hobc⟩, ?_⟩)
  refine lands_againW f5 fun h₆ f6 u6 => ?_
  exact hsuite h₆ f6.1 ((u4.trans u5).trans u6) _
end
end Mine
end
section
open PySem PySem.W PyProof.Rows
set_option maxRecDepth 100000
namespace Mine
/-- a step that may leave the frames F with other slots; no word of the heap's size -/
structure Flew (F : List Addr) (s s' : Shared) : Prop where
  keep : ∀ b o, s.heap.get? b = some o → ¬ IsTab o → b ∉ F → s'.heap.get? b = some o
  slots : s.heap.UpToSlots s'.heap
  tok : s.toks ≤ s'.toks
  os : s'.os = s.os
  gens : GStep s.gens s'.gens
  tabs : ∀ P, P ∉ F → TabOk s.heap P → TabOk s'.heap P
  old : ∀ H : Heap, H.objs.size ≤ s.heap.objs.size → (∀ u ∈ F, H.objs.size ≤ u) → GoodH H → OldK H s.heap → OldK H s'.heap
theorem oldK_below {H h h' : Heap} (he : ∀ b o, b < H.objs.size → h.get? b = some o → h'.get? b = some o) (K : OldK H h) : OldK H h' := by
  refine ⟨fun b o e => ?_, fun b o e => ?_⟩
  · have hb := Heap.lt_size e
    rcases K.old b o e with x | ⟨t, hc, vs, more, hv, x⟩ | ⟨rfl, hc, ⟨o', es, n, ho', r⟩, z⟩
    · exact .inl (he b o hb x)
    · exact .inr (.inl ⟨t, hc, vs, more, hv, he b _ hb x⟩)
    · have q := he _ _ hb ho'
      exact .inr (.inr ⟨rfl, hc, ⟨o', es, n, q, r⟩, fun key => by rw [OldK.staticOf_congr (q.trans ho'.symm) key]; exact z key⟩)
  · obtain ⟨o', ho'⟩ := K.there b o e
    exact ⟨o', he b o' (Heap.lt_size e) ho'⟩
theorem Flew.ns {F : List Addr} {s s' : Shared} (x : Flew F s s') {a : Addr} {m : Str → Option Value} (n : s.heap.Ns a m) : s'.heap.Ns a m := x.slots.ns n
theorem Inv.flew {K : Frag} {B : Nat} {F : List Addr} {s s' : Shared} (k : Kok K B) (I : Inv K B s) (x : Flew F s s') (hF : ∀ u ∈ F, B ≤ u) {L : Addr} {m : Str → Option Value} (hL : B ≤ L) (n : s.heap.Ns L m) : Inv K B s' where
  X a o e := x.keep a o (I.X _ _ e) (k.cls a o e) fun q => absurd (hF a q) (Nat.not_le.mpr (k.low a o e))
  lim := by
    obtain ⟨mc, n, q⟩ := I.lim
    exact ⟨mc, x.ns n, q⟩
  glob := by
    obtain ⟨mg, mb, a, b, c⟩ := I.glob
    exact ⟨mg, mb, x.ns a, x.ns b, c⟩
  tok := Nat.lt_of_lt_of_le I.tok x.tok
  base := by
    obtain ⟨o, _, _, e, _⟩ := x.ns n
    exact Nat.le_of_lt (Nat.lt_of_le_of_lt hL (Heap.lt_size e))
  tabs P h := x.tabs P (fun q => absurd (hF P q) (Nat.not_le.mpr (k.tabs P h))) (I.tabs P h)
/-- the frame whose try it was stands as before -/
theorem St.flew {K : Frag} {B : Nat} {F O W : List Addr} {N : Nat} {vs : List (Str × D)} {L : Addr} {s s' : Shared} (k : Kok K B) (h : St K B O W N ⟨vs, .none⟩ L s) (x : Flew F s s') (hF : ∀ u ∈ F, B ≤ u) (hFO : ∀ u ∈ F, ∀ o, s.heap.get? u = some o → u ∈ O) : St K B O W N ⟨vs, .none⟩ L s' := by
  obtain ⟨m, ns, hv, ho⟩ := h.loc.ns
  have hN : N ≤ L := (h.loc.sub L h.loc.out).2
  have kp : KeepFor O s.heap s'.heap := fun b o e hc hb => x.keep b o e hc fun q => hb (hFO b q o e)
  exact ⟨h.inv.flew k x hF (Nat.le_trans h.bn hN) ns, ⟨⟨m, x.ns ns, fun y d e => let ⟨v, e1, r⟩ := hv y d e; ⟨v, e1, r.keep kp fun b o hb _ => hb⟩, trivial⟩, h.loc.out, h.loc.sub⟩, h.bn⟩
end Mine
end
section
open PySem PySem.W PyProof.Rows
set_option maxRecDepth 100000
namespace Mine
/-- the base of what flies -/
noncomputable def baseOf (s₂ : Shared) (env : Env) (l : List Env) : Heap := hideAll s₂.heap ((env :: l).filterMap (·.frame))
theorem flew_of {s s₂ : Shared} {env : Env} {l : List Env} {L : Addr} {h' h'' : Heap} (st : Stp [] s s₂) (hL : env.frame = some L) (hz : s.heap.objs.size ≤ L) (k : (baseOf s₂ env l).StaysIn h'') (u : s₂.heap.UpToSlots h') (u' : h'.UpToSlots h'') : Flew (l.filterMap (·.frame)) s { s₂ with heap := h'' } := by
  have up : ∀ b o, s.heap.get? b = some o → s₂.heap.get? b = some o → b ∉ l.filterMap (·.frame) → h''.get? b = some o := by
    intro b o e e2 hb
    refine k b o (hideAll_get _ e2 fun q => ?_)
    rw [List.filterMap_cons, hL] at q
    rcases List.mem_cons.mp q with q | q
    · exact absurd (Heap.lt_size e) (by rw [q]; exact Nat.not_lt.mpr hz)
    · exact hb q
  refine ⟨fun b o e ht hb => up b o e (st.keep b o e ht (by simp)) hb, fun b o e hn => ?_, st.tok, st.os, st.gens, fun P hP t => ?_, fun H hs hF g K => oldK_below (fun b o hb e => k b o (hideAll_get _ e fun q => ?_)) (st.old H hs (by simp) g K)⟩
  · have e2 := st.keep b o e (fun ⟨_, vs, q⟩ => hn vs q) (by simp)
    exact (u.trans u') b o e2 hn
  · obtain ⟨ps, e, tr⟩ := t
    obtain ⟨ps2, e2, tr2⟩ := st.tabs P (by simp) ⟨ps, e, tr⟩
    refine ⟨ps2, ?_, tr2⟩
    refine k P _ (hideAll_get _ e2 fun q => ?_)
    rw [List.filterMap_cons, hL] at q
    rcases List.mem_cons.mp q with q | q
    · exact absurd (Heap.lt_size e) (by rw [q]; exact Nat.not_lt.mpr hz)
    · exact hP q
  · rw [List.filterMap_cons, hL] at q
    rcases List.mem_cons.mp q with q | q
    · rw [q] at hb
      exact absurd (Nat.lt_of_lt_of_le hb hs) (Nat.not_lt.mpr hz)
    · exact absurd hb (Nat.not_lt.mpr (hF b q))
end Mine
end
section
open PySem PySem.W PyProof.Rows
set_option maxRecDepth 100000
namespace Mine
section
variable {prog : Program} {w : World} {K : Frag} {B : Nat} {A : Around} {N : Nat} {L : Addr} {env : Env} (he : EnvOk env L) {sc : Scope} (hsc : ScIs K env sc)
include he hsc in
/-- `return x`, wherever it stands -/
theorem ret_local {O W : List Addr} {ρ : PE} {s : Shared} {x : Str} {xp pos : Pos} {d : D} (hs : St K B O W N ρ L s) (hk : sc.names.lookup x = some .local) (hd : (x == ("__debug__" : Str)) = false) (hl : ρ.vars.lookup x = some d) {Q : Flow → Shared → Prop} {E : Value → Shared → Prop}
    (q : ∀ v s', Stp [] s s' → Rep O s'.heap v d → Q (.ret v) s') : wpAny (model prog w) A (execs [.Return (some (.Name x xp)) pos] env) Q E s := by
  refine wpAny_execs_cons (wpAny_Return_some ?_)
  exact gives_local he hs (by rw [hsc.eq]; exact hk) hd hl _ _ q
end
end Mine
end
section
open PySem PySem.W PyProof.Rows
set_option maxRecDepth 100000
namespace Mine
section
variable {prog : Program} {w : World} {K : Frag} {B : Nat} (k : Kok K B) {c : PC} {A : Around} {O W : List Addr} {N : Nat} {L : Addr} {env : Env}
include k in
/-- a call by name, its parts done, goes on as the callee's call does -/
theorem call_goes {f : Expr → Option D} (hf : ∀ e d, f e = some d → EvOk prog w K B c A O W N L env e d) {x : Str} {p pos : Pos} {es : List Expr} {hd : D} {ds : List D} {kws : List Keyword} {ks : List (Str × D)} (hx : f (.Name x p) = some hd) (h : evsWith f es = some ds) (h' : evkWith f kws = some ks)
    {s : Shared} (hs : St K B O W N c.ρ L s) (hO : OLow O s) {Q E : Value → Shared → Prop}
    (hc : ∀ g s', Stp [] s s' → Rep O s'.heap g hd → (∃ k, (k = Keeper.frame ∨ k = Keeper.machine ∨ k = Keeper.boundFrame) ∧ Looks (model prog w) s'.heap (keeperOf g) k) ∧ ∀ vs kv, RepL O s'.heap vs ds → RepL O s'.heap kv (ks.map (·.2)) → wpAny (model prog w) A (call g vs ((ks.map (·.1)).zip kv)) Q E s') :
    wpAny (model prog w) A (eval (.Call (.Name x p) es kws pos) env) Q E s := by
  rw [arm_eval_Call_Name']
  refine wpAny_bind (hf _ _ hx s hs hO _ _ fun g s₀ x₀ r₀ => ?_)
  have pl : ((backTo pos (starEach es env)).any (·.1) || (backToKw pos (keywordEach kws env)).any (·.1.isNone)) = false := by rw [(evs_plain h).1, (kws_plain h').1]; rfl
  refine callWith_of (P := fun h => ∃ k, (k = Keeper.frame ∨ k = Keeper.machine ∨ k = Keeper.boundFrame) ∧ Looks (model prog w) h (keeperOf g) k) pl (fun _ x => x) ?_
  have main : wpAny (model prog w) A (spliced (backTo pos (starEach es env))) (fun vs s₁ => wpAny (model prog w) A (evalAll ((backToKw pos (keywordEach kws env)).map (·.2)))
      (fun ws s₂ => (∃ k, (k = Keeper.frame ∨ k = Keeper.machine ∨ k = Keeper.boundFrame) ∧ Looks (model prog w) s₂.heap (keeperOf g) k) ∧ wpAny (model prog w) A (call g ([] ++ vs) (((backToKw pos (keywordEach kws env)).filterMap (·.1)).zip ws)) Q E s₂) E s₁) E s₀ := by
    refine evs_ok k hf pos h s₀ (hs.on k x₀) (hO.on x₀) _ _ fun vs s₁ x rs => ?_
    have z := evk_ok k hf pos h' s₁ (hs.on k (x₀.tr x)) (hO.on (x₀.tr x))
    refine z.2.2 _ _ fun ws s₂ y rk => ?_
    have cc := hc g s₂ (x₀.tr (x.tr y)) (r₀.on (x.tr y))
    refine ⟨cc.1, ?_⟩
    rw [z.1, List.nil_append]
    exact cc.2 vs ws (rs.on y) rk
  cases es with
  | nil => exact evalArgs_kw2_nil (kws_plain h').2 (by
      have : wpAny (model prog w) A (spliced (backTo pos (starEach [] env))) _ E s₀ := main
      have e : spliced (backTo pos (starEach [] env)) = pure [] := rfl
      rw [e] at this
      intro Γ p hΓ
      have z := this Γ p hΓ
      rw [Sem.wp_pure'] at z
      exact z Γ p hΓ)
  | cons e r =>
    refine evalArgs_kw2 (kws_plain h').2 main ?_
    unfold evsWith at h
    split at h
    · rename_i hp
      cases e <;> first | rfl | cases hp
    · cases h
end
end Mine
end
section
open PySem PySem.W PyProof.Rows
set_option maxRecDepth 1000000
set_option maxHeartbeats 1000000
namespace Mine
variable {P : Params}
section
variable {n : Nat} {a b c : Int} {p q : List Str} {s r w : Str}
noncomputable def rngV (s : Str) (v : D) (r w : Str) : List (Str × D) := [("build_policy", .str w), ("prerelease_policy", .str r), ("target", v), ("operator", .str s)]
/-- the message of what is refused -/
theorem msg676 (hs : s.length ≤ 2) (ha : Small a) (hb : Tiny b) (hc : Tiny c) (hp : p ∈ pres) (hq : q ∈ blds) :
    ∃ m : Str, wE ((ctx (OO P (n + 4)) (F676 P) 676).pc ⟨rngV s (verD a b c p q) r w, .inst "self" 700 []⟩) 40 (match (bodyOf (F676 P)) with | .If _ [.Raise (some (.Call _ [e] _ _)) _ _] _ _ :: _ => e | _ => default) (· = .str m) := by
  have hl := text_len ha hb.small hc.small hp hq
  have h0 : Str.empty.length = 0 := rfl
  refine ⟨("Invalid range " : Str) ++ (s ++ (textS a b c p q ++ ((": build numbers have no ordering." : Str) ++ Str.empty))), ?_⟩
  have l1 : (("Invalid range " : Str)).length = 14 := by decide
  have l2 : ((": build numbers have no ordering." : Str)).length = 33 := by decide
  have d1 : ((": build numbers have no ordering." : Str)).length + Str.empty.length ≤ 5000 := by omega
  have d2 : (textS a b c p q).length + ((": build numbers have no ordering." : Str) ++ Str.empty).length ≤ 5000 := by simp only [Str.length_append]; omega
  have d3 : s.length + (textS a b c p q ++ ((": build numbers have no ordering." : Str) ++ Str.empty)).length ≤ 5000 := by simp only [Str.length_append]; omega
  have d4 : (("Invalid range " : Str)).length + (s ++ (textS a b c p q ++ ((": build numbers have no ordering." : Str) ++ Str.empty))).length ≤ 5000 := by simp only [Str.length_append]; omega
  exact ⟨_, fm_str (by omega), _, fm_ver ha hb hc hp hq, d1, d2, d3, d4, rfl⟩
/-- the test that refuses -/
theorem test676 (hl : q.length ≤ 900) (hq : q.isEmpty = false) (hE : isE s = false) :
    wT ((ctx (OO P (n + 4)) (F676 P) 676).pc ⟨rngV s (verD a b c p q) r w, .inst "self" 700 []⟩) 40 (match (bodyOf (F676 P)) with | .If t _ _ _ :: _ => t | _ => default) (· = true) := by
  refine t_and true ⟨_, a_bld, _, tru_stD hl, by rw [hq]; rfl⟩ ?_
  exact t_and true ⟨_, self_eq, _, self_ne, _, notin2, _, tru_b, by rw [hE]; rfl⟩ rfl
theorem ve_name (P : Params) : globIn (KK P) "ValueError" = some (.type "ValueError") := by kernel_rfl
end
end Mine
end
section
open PySem PySem.W PyProof.Rows
set_option maxRecDepth 1000000
set_option maxHeartbeats 1000000
namespace Mine
variable {P : Params} {prog : Program} {w : World} {B : Nat}
section
variable {n : Nat} {a b c : Int} {p q : List Str} {s r wy : Str}
theorem rangeRaises (k : Kok (KK P) B) {A : Around} (hA : Room A (n + 5)) (hs : s.length ≤ 2) (ha : Small a) (hb : Tiny b) (hc : Tiny c) (hp : p ∈ pres) (hq : q ∈ blds) (hqe : q.isEmpty = false) (hE : isE s = false)
    {O : List Addr} {st : Shared} (I : Inv (KK P) B st) (hO : OLow O st) {vs kv : List Value} (ra : RepL O st.heap vs [.str s, verD a b c p q]) (rk : RepL O st.heap kv [.str r, .str wy]) {outer : List Env} (hfr : A.frames = some outer) (hfun : Frames st.heap outer) {Q E : Value → Shared → Prop}
    (hQ : ∀ e s₂ s', Stp [] st s₂ → Flies st.heap.objs.size s₂ outer e s' → E (.ref e) s') :
    wpAny (model prog w) A (call (.ref 700) vs (([("prerelease_policy", .str r), ("build_policy", .str wy)] : List (Str × D)).map (·.1) |>.zip kv)) Q E st := by
  refine make_raises (K := KK P) (kws := [("prerelease_policy", .str r), ("build_policy", .str wy)]) (dd := [.str "natural", .str "implicit"]) (b := [("self", .glob .none), ("operator", .str s), ("target", verD a b c p q), ("prerelease_policy", .str r), ("build_policy", .str wy)]) k hA (by kernel_rfl) (by kernel_rfl) (by kernel_rfl) (ok676 P).at_ (ok676 P).good (ok676 P).body (by kernel_rfl) rfl (by kernel_rfl) (by kernel_rfl) I hO ra rk hfr hfun ?_ hQ
  intro A' env L O' N W s₁ hA' he hsc hst hlow E' hE'
  have ok := ops_ok (prog := prog) (w := w) k (ownv := OWN) (n + 4)
  obtain ⟨t, ht, rfl⟩ := wT_ok (g' := globIn (KK P)) (gl_ok P) (test676 (P := P) (n := n) (a := a) (b := b) (c := c) (p := p) (r := r) (w := wy) (blds_ids q hq).2 hqe hE)
  obtain ⟨m, hm⟩ := msg676 (P := P) (n := n) (r := r) (w := wy) hs ha hb hc hp hq
  obtain ⟨d, hd, rfl⟩ := wE_ok (g' := globIn (KK P)) (gl_ok P) hm
  let cc : FC := ⟨(F676 P).scope, globIn (KK P), OO P (n + 4), OWN 676, settable (KK P), 40⟩
  refine wpAny_execs_cons (wpAny_If (tv_ok (c := cc.pc ⟨rngV s (verD a b c p q) r wy, .inst "self" 700 []⟩) k ok (fun _ _ e => e) hA' he hsc ht s₁ hst hlow _ _ fun s₂ x => ?_))
  refine wpAny_execs_cons (raise_ok (c := cc) (ρ := ⟨rngV s (verD a b c p q) r wy, .inst "self" 700 []⟩) k ok (fun _ _ e => e) hA' he hsc (hst.on k x) (hlow.on x) rfl ?_ hd fun a s₃ h' as y hm => hE' a s₃ h' as (x.tr y) hm)
  exact congrArg (Option.map globD) (ve_name P)
end
end Mine
end
section
open PySem PySem.W PyProof.Rows
set_option maxRecDepth 1000000
set_option maxHeartbeats 1000000
namespace Mine
variable {P : Params} {prog : Program} {w : World} {B : Nat}
section
variable {n : Nat} {a b c N M g : Int} {p q : List Str} {s r : Str} {k0 : Bool} {others : List D}
/-- the try's one statement, where it raises -/
theorem tryRaises (k : Kok (KK P) B) {A : Around} (hA : Room A (n + 20)) (hs : s.length ≤ 2) (ha : Small a) (hb : Tiny b) (hc : Tiny c) (hp : p ∈ pres) (hq : q ∈ blds) (hqe : q.isEmpty = false) (hE : isE s = false)
    {O W : List Addr} {Nn : Nat} {L : Addr} {env : Env} {st : Shared} (he : EnvOk env L) (hsc : ScIs (KK P) env (F777 P).scope) (hst : St (KK P) B O W Nn ⟨caseV N M g s r k0 a b c p q others, .none⟩ L st) (hO : OLow O st) {outer : List Env} (hfr : A.frames = some outer) (hfun : Frames st.heap outer) {Q : Flow → Shared → Prop} {E : Value → Shared → Prop}
    (hQ : ∀ e s₁ s₂ s', Stp [] st s₁ → Stp [] s₁ s₂ → Flies s₁.heap.objs.size s₂ outer e s' → E (.ref e) s') :
    wpAny (model prog w) A (execs (match (bodyOf (F777 P)).getD 5 default with | .Try b _ _ _ _ => b | _ => []) env) Q E st := by
  have ok := ops_ok (prog := prog) (w := w) k (ownv := OWN) (n + 20)
  let cc : FC := ⟨(F777 P).scope, globIn (KK P), OO P (n + 20), OWN 777, settable (KK P), 40⟩
  have hf : ∀ e d, ev (cc.pc ⟨caseV N M g s r k0 a b c p q others, .none⟩) 40 e = some d → EvOk prog w (KK P) B (cc.pc ⟨caseV N M g s r k0 a b c p q others, .none⟩) A O W Nn L env e d := fun e d h => ev_ok (c := cc.pc ⟨caseV N M g s r k0 a b c p q others, .none⟩) k ok (fun _ _ e => e) hA he hsc h
  refine wpAny_execs_cons (wpAny_Assign_Name (call_goes k hf (hd := .glob (.ref 700)) (ds := [.str s, verD a b c p q]) (ks := [("prerelease_policy", .str r), ("build_policy", .str (wayS k0))]) ?_ ?_ ?_ hst hO fun g' s' x rg => ?_) (noSwap rfl))
  · exact congrArg (Option.map globD) (gl_ok P "Range" _ rfl)
  · rfl
  · rfl
  · have hg : g' = .ref 700 := rg.inv
    subst hg
    have I' := hst.inv.on k x
    refine ⟨keeps_K (keeper_cls (by kernel_rfl)) _ I'.X, fun vs kv ra rk => ?_⟩
    exact rangeRaises (n := n + 14) k (hA.less (by omega)) hs ha hb hc hp hq hqe hE I' (hO.on x) ra rk hfr (hfun.on x) fun e s₂ s3 y fl => hQ e s' s₂ s3 x y fl
end
end Mine
end
section
open PySem PySem.W PyProof.Rows
set_option maxRecDepth 1000000
set_option maxHeartbeats 1000000
namespace Mine
variable {P : Params} {prog : Program} {w : World} {B : Nat}
section
variable {n : Nat} {a b c N M g : Int} {p q : List Str} {s r : Str} {k0 : Bool} {others : List D}
theorem tryWrong (k : Kok (KK P) B) {A : Around} (hA : Room A (n + 20)) (hs : s.length ≤ 2) (ha : Small a) (hb : Tiny b) (hc : Tiny c) (hp : p ∈ pres) (hq : q ∈ blds) (hqe : q.isEmpty = false) (hE : isE s = false)
    {O W : List Addr} {Nn : Nat} {L : Addr} {env : Env} {st : Shared} (he : EnvOk env L) (hsc : ScIs (KK P) env (F777 P).scope) (hst : St (KK P) B O W Nn ⟨caseV N M g s r k0 a b c p q others, .none⟩ L st) (hO : OLow O st) {outer : List Env} (hfr : A.frames = some (env :: outer)) (hfL : env.frame = some L) (hfun : Frames st.heap (env :: outer)) (hFB : ∀ u ∈ (env :: outer).filterMap (·.frame), B ≤ u ∧ u ∈ O) {Q : Flow → Shared → Prop} {E : Value → Shared → Prop}
    (hQ : ∀ v s' s'', Flew ((env :: outer).filterMap (·.frame)) st s' → Stp [] s' s'' → Rep O s''.heap v (.bool true) → Q (.ret v) s'') :
    wpAny (model prog w) A (exec ((bodyOf (F777 P)).getD 5 default) env) Q E st := by
  refine wpAny_Try_except (wpAny_mono (tryRaises (n := n) (Q := fun _ _ => False) (E := fun e s' => ∃ a s₁ s₂, e = .ref a ∧ Stp [] st s₁ ∧ Stp [] s₁ s₂ ∧ Flies s₁.heap.objs.size s₂ (env :: outer) a s') k hA hs ha hb hc hp hq hqe hE he hsc hst hO hfr hfun fun e s₁ s₂ s' x y fl => ⟨e, s₁, s₂, rfl, x, y, fl⟩) (fun _ _ q => q.elim) ?_)
  rintro e s' ⟨ad, s₁, s₂, rfl, x, y, env', L', t, h', hL', hz, rfl, k1, fl, u⟩
  have xy : Stp [] st s₂ := x.tr y
  have fw : ∀ h'', (hideAll s₂.heap ((env' :: env :: outer).filterMap (·.frame))).StaysIn h'' → h'.UpToSlots h'' → Flew ((env :: outer).filterMap (·.frame)) st { s₂ with heap := h'' } := fun h'' k2 u2 => flew_of (h' := h') xy hL' (Nat.le_trans x.size hz) k2 u u2
  have sto : ∀ h'', (hideAll s₂.heap ((env' :: env :: outer).filterMap (·.frame))).StaysIn h'' → h'.UpToSlots h'' → St (KK P) B O W Nn ⟨caseV N M g s r k0 a b c p q others, .none⟩ L { s₂ with heap := h'' } := fun h'' k2 u2 => hst.flew k (fw h'' k2 u2) (fun u hu => (hFB u hu).1) fun u hu _ _ => (hFB u hu).2
  refine catch_ok (base := hideAll s₂.heap ((env' :: env :: outer).filterMap (·.frame))) hfr hfL fl (fun h'' k2 u2 Q E q => ?_) fun h'' k2 u2 E => ?_
  · exact gives_global he (sto h'' k2 u2).inv (by rw [hsc.eq]; rfl) rfl (ve_name P) q
  · exact ret_local (d := .bool (!q.isEmpty && !isE s)) he hsc (sto h'' k2 u2) rfl rfl rfl fun v s3 z rv => hQ v _ s3 (fw h'' k2 u2) z (by rw [hqe, hE] at rv; exact rv)
end
end Mine
end
section
open PySem PySem.W PyProof.Rows
set_option maxRecDepth 1000000
set_option maxHeartbeats 1000000
namespace Mine
variable {P : Params} {prog : Program} {w : World} {B : Nat}
theorem Flew.refl (F : List Addr) (s : Shared) : Flew F s s := ⟨fun _ _ e _ _ => e, fun b o e _ => ⟨o.slots, e⟩, Nat.le_refl _, rfl, .refl _, fun _ _ t => t, fun _ _ _ _ K => K⟩
/-- a frame that came later need not be told -/
theorem Flew.before {F : List Addr} {L : Addr} {s s₁ s₂ : Shared} (x : Stp [] s s₁) (y : Flew (L :: F) s₁ s₂) (hL : s.heap.objs.size ≤ L) : Flew F s s₂ where
  keep b o e ht hb := y.keep b o (x.keep b o e ht (by simp)) ht fun q => (List.mem_cons.mp q).elim (fun q => absurd (Heap.lt_size e) (by rw [q]; exact Nat.not_lt.mpr hL)) hb
  slots b o e hn := y.slots b o (x.keep b o e (fun ⟨_, vs, q⟩ => hn vs q) (by simp)) hn
  tok := Nat.le_trans x.tok y.tok
  os := y.os.trans x.os
  gens := x.gens.trans y.gens
  old H hs hF g K := y.old H (Nat.le_trans hs x.size) (fun u hu => (List.mem_cons.mp hu).elim (fun q => by rw [q]; exact Nat.le_trans hs hL) (hF u)) g (x.old H hs (by simp) g K)
  tabs P hP t := y.tabs P (fun q => (List.mem_cons.mp q).elim (fun q => absurd t.lt (by rw [q]; exact Nat.not_lt.mpr hL)) hP) (x.tabs P (by simp) t)
/-- a case: True, whether Range refuses or not -/
theorem case777 {n : Nat} {N M g : Int} (k : Kok (KK P) B) {A : Around} (hA : RoomD A (n + 20)) (hg : Small g) {O : List Addr} {s : Shared} (I : Inv (KK P) B s) (hO : OLow O s) {vs : List Value} (ra : RepL O s.heap vs [.int N, .int M, .int g])
    {outer : List Env} (hfr : A.frames = some outer) (hfun : Frames s.heap outer) (hFB : ∀ u ∈ outer.filterMap (·.frame), B ≤ u ∧ u ∈ O) {Q E : Value → Shared → Prop}
    (hQ : ∀ v s' s'', Flew (outer.filterMap (·.frame)) s s' → Stp [] s' s'' → Rep O s''.heap v (.bool true) → Q v s'') : wpAny (model prog w) A (call (.ref 777) vs []) Q E s := by
  have ok := ops_ok (prog := prog) (w := w) k (ownv := OWN) (n + 20)
  obtain ⟨dr, hdr, s0, r, k0, a, b, c, p, q, others, rfl, hs, hr, ha, hb, hc, hp, hq, ho, hol, hrule⟩ := draw770 (P := P) (n := n + 14) (N := N) (M := M) hg
  refine call_body k hA (ok777 P).at_ (ok777 P).body (b := [("great", .int g), ("m", .int M), ("n", .int N)]) (by kernel_rfl) (kws := []) (kv := []) I hO ra .nil fun env s₁ hA' he hsc hfe hst hlow st hLs => ⟨fun _ _ => False, ?_, fun _ _ z => z.elim⟩
  have split : bodyOf (F777 P) = (bodyOf (F777 P)).take 5 ++ ((bodyOf (F777 P)).getD 5 default :: (bodyOf (F777 P)).drop 6) := by kernel_rfl
  rw [split]
  let cc : FC := ⟨(F777 P).scope, globIn (KK P), OO P (n + 20), OWN 777, settable (KK P), 40⟩
  obtain ⟨fl, ρ', e0, rfl, rfl⟩ := wX_ok (g' := globIn (KK P)) (s' := settable (KK P)) (gl_ok P) (st_ok P) _ (pre777 (P := P) (n := n) (k := k0) (p := p) (q := q) (others := others) hp hq ha hb hc hdr)
  have e : exs cc 60 ⟨[("great", .int g), ("m", .int M), ("n", .int N)], .none⟩ ((bodyOf (F777 P)).take 5) = some (.next, ⟨caseV N M g s0 r k0 a b c p q others, .none⟩) := e0
  refine exs_pre (c := cc) k ok (fun _ _ e => e) (fun _ _ e => e) hA' he hsc (O₀ := O) hO 60 e hst hlow (fun a ha => .tail _ ha) fun s₂ O₂ W₂ af => ?_
  have cutL : ∀ {s3 : Shared}, Stp [s.heap.objs.size] s₁ s3 → Stp [] s s3 := fun x => (st.trans x).cut fun u hu => .inr (by
    have hu : u ∈ [s.heap.objs.size] := hu
    rw [List.mem_singleton.mp hu]
    exact Nat.le_refl _)
  have h0O : ∀ a ∈ O, a ∈ O₂ := fun a ha => af.oSup a (.tail _ ha)
  refine wpAny_execs_cons ?_
  by_cases hok : q = [] ∨ isE s0 = true
  · obtain ⟨fl3, ρ3, e3, rfl, rfl⟩ := wX_ok (g' := globIn (KK P)) (s' := settable (KK P)) (gl_ok P) (st_ok P) _ (try777 (P := P) (n := n) (N := N) (M := M) (g := g) (r := r) (k0 := k0) (a := a) (b := b) (c := c) (others := others) hp hq hok)
    obtain ⟨fl4, ρ4, e4, h4⟩ := wX_ok (g' := globIn (KK P)) (s' := settable (KK P)) (gl_ok P) (st_ok P) _ (rest777 (P := P) (n := n) (N := N) (M := M) (g := g) (k0 := k0) hs hr hp hq ha hb hc hok hrule ho)
    refine wpAny_Try_except (wpAny_mono (exs_ok (c := cc) k ok (fun _ _ e => e) (fun _ _ e => e) hA' he hsc (O₀ := O) hO 54 _ _ _ _ e3 _ _ _ af.st af.low h0O (fun flv s3 => ∃ O3 W3, After (KK P) B O₂ W₂ s.heap.objs.size s.heap.objs.size s₂ O3 W3 ⟨doneV N M g s0 r k0 a b c p q others, .none⟩ s3 ∧ FlowIs O s3.heap flv .next) (fun _ _ => False) fun flv s3 O3 W3 a3 fi => ⟨O3, W3, a3, fi⟩) ?_ fun _ _ z => z.elim)
    rintro flv s3 ⟨O3, W3, a3, fi⟩
    cases flv <;> first | exact fi.elim | skip
    refine wpAny_execs_nil ?_
    refine exs_ok (c := cc) k ok (fun _ _ e => e) (fun _ _ e => e) hA' he hsc (O₀ := O) hO 54 _ _ _ _ e4 _ _ _ a3.st a3.low (fun a ha => a3.oSup a (h0O a ha)) _ _ fun flv s4 O4 W4 a4 fi => ?_
    have x4 : Stp [] s s4 := cutL ((af.trans a3).trans a4).stp
    cases fl4 with
    | ret d =>
      have h4 : d = .bool true := h4
      subst h4
      cases flv <;> first | exact fi.elim | exact hQ _ s s4 (.refl _ _) x4 fi
    | next => exact absurd h4 (by intro z; cases z)
    | brk => exact h4.elim
    | cont => exact h4.elim
  · have hqe : q.isEmpty = false := by
      cases q with
      | nil => exact absurd (.inl rfl) hok
      | cons => rfl
    have hE : isE s0 = false := by
      cases h : isE s0 with
      | false => rfl
      | true => exact absurd (.inr h) hok
    have x2 : Stp [] s s₂ := cutL af.stp
    obtain ⟨m, ns, _, _⟩ := af.st.loc.ns
    refine tryWrong (n := n) k hA' (sign_len s0 hs) ha hb.tiny hc.tiny hp (blds0_blds q hq).1 hqe hE he hsc af.st af.low (outer := outer) (by show A.frames.map _ = _; rw [hfr]; rfl) hfe.2 (Heap.FunFrames.cons (by rw [he.kind]; decide) hfe.2 ns (none_empty _) (hfun.on x2)) (fun u hu => ?_) fun v s' s'' fw y rv => ?_
    · rw [List.filterMap_cons, hfe.2] at hu
      rcases List.mem_cons.mp hu with rfl | hu
      · exact ⟨I.base, af.oSup _ (.head _)⟩
      · exact ⟨(hFB u hu).1, h0O u (hFB u hu).2⟩
    · have hf : (env :: outer).filterMap (·.frame) = s.heap.objs.size :: outer.filterMap (·.frame) := by rw [List.filterMap_cons, hfe.2]
      rw [hf] at fw
      exact hQ v s' s'' (fw.before x2 (Nat.le_refl _)) y (by obtain rfl := rv.inv; exact .bool _)
end Mine
end
section
open PySem PySem.W PyProof.Rows
set_option maxRecDepth 100000
namespace Mine
/-- with the size told, what flew is a step -/
theorem Flew.stp {F : List Addr} {s s' : Shared} (x : Flew F s s') (hz : s.heap.objs.size ≤ s'.heap.objs.size) : Stp F s s' := ⟨hz, x.keep, x.old, x.tok, x.os, x.gens, x.tabs⟩
theorem Flew.on {F : List Addr} {L : Addr} {m : Str → Option Value} {s s' s'' : Shared} (x : Flew F s s') (hL : L ∈ F) (n : s.heap.Ns L m) (y : Stp [] s' s'') : Flew F s s'' where
  keep b o e ht hb := y.keep b o (x.keep b o e ht hb) ht (by simp)
  slots b o e hn := let ⟨sl, q⟩ := x.slots b o e hn; ⟨sl, y.keep b _ q (fun ⟨_, vs, z⟩ => hn vs z) (by simp)⟩
  tok := Nat.le_trans x.tok y.tok
  os := y.os.trans x.os
  gens := x.gens.trans y.gens
  tabs P hP t := y.tabs P (by simp) (x.tabs P hP t)
  old H hs hF g K := y.old H (by
    obtain ⟨o, _, _, e, _⟩ := x.ns n
    exact Nat.le_trans (hF L hL) (Nat.le_of_lt (Heap.lt_size e))) (by simp) g (x.old H hs hF g K)

/-- enumerate of a list, at place i -/
structure EnumAt (h : Heap) (e it l : Addr) (i : Nat) (items : Array Value) : Prop where
  en : ∃ old, IsEnum h e it i old
  ite : h.IsListIter it l i
  li : h.IsList l items
theorem EnumAt.on {U : List Addr} {s s' : Shared} {e it l : Addr} {i : Nat} {items : Array Value} (x : EnumAt s.heap e it l i items) (y : Stp U s s') (h1 : e ∉ U) (h2 : it ∉ U) (h3 : l ∉ U) : EnumAt s'.heap e it l i items := by
  obtain ⟨⟨old, he⟩, ⟨oi, g1, g2, g3⟩, ⟨ol, f1, f2, f3⟩⟩ := x
  exact ⟨⟨old, y.keep _ _ he (notTab_cls rfl (by intro q; cases q)) h1⟩, ⟨oi, y.keep _ _ g1 (notTab_cls g2 (by intro q; cases q)) h2, g2, g3⟩, ⟨ol, y.keep _ _ f1 (notTab_cls f2 (by intro q; cases q)) h3, f2, f3⟩⟩
section
variable {prog : Program} {w : World} {K : Frag} {B : Nat} (k : Kok K B) {A : Around}
include k in
theorem enum_loop (hh : A.handled = none) {env : Env} {L e it l : Addr} {items : List Value} {s₀ s : Shared} {ts : List Expr} {kd : Nat} {tp : Pos} {body : List Stmt} {R : Result → Shared → Prop}
    (hB : B ≤ L ∧ B ≤ e ∧ B ≤ it) (hz : s₀.heap.objs.size ≤ L ∧ s₀.heap.objs.size ≤ e ∧ s₀.heap.objs.size ≤ it) (hd : e ≠ it ∧ l ≠ e ∧ l ≠ it ∧ L ≠ e ∧ L ≠ it ∧ l ≠ L)
    (turn : ∀ (i : Nat) (v : Value) (T : Addr) (t : Tok) (s : Shared), items[i]? = some v → Inv K B s → (∃ m, s.heap.Ns L m) → T ≠ L → s.heap.get? T = some { cls := .type "tuple", data := .seq #[.int i t, v] } →
      wpAny (model prog w) A (assign (.Tuple ts kd tp) env (.ref T)) (fun _ s₂ => wpAny (model prog w) A (execs body env) (fun f s₃ => f = .next ∧ Stp [L] s s₃ ∧ (∃ m, s₃.heap.Ns L m) ∧ Inv K B s₃) (fun _ _ => False) s₂) (fun _ _ => False) s)
    (done : ∀ s', Stp [] s₀ s' → Inv K B s' → (∃ m, s'.heap.Ns L m) → R (.ok .next) s')
    (x0 : Stp [] s₀ s) (I0 : Inv K B s) (n0 : ∃ m, s.heap.Ns L m) (E0 : EnumAt s.heap e it l 0 items.toArray) :
    codeAny (model prog w) A (.forLoop (.Tuple ts kd tp) (.ref e) body [] env) R s := by
  obtain ⟨b1, b2, b3⟩ := hB
  obtain ⟨z1, z2, z3⟩ := hz
  obtain ⟨d1, d2, d3, d4, d5, d6⟩ := hd
  refine codeAny_forLoop_any (fun k' s' => ∃ i, k' = items.length - i ∧ i ≤ items.length ∧ Stp [] s₀ s' ∧ Inv K B s' ∧ (∃ m, s'.heap.Ns L m) ∧ EnumAt s'.heap e it l i items.toArray) ?_ items.length ⟨0, rfl, Nat.zero_le _, x0, I0, n0, E0⟩
  rintro k' s' ⟨i, rfl, hi, x, I, ⟨m, ns⟩, E⟩
  obtain ⟨⟨old, en⟩, ite, li⟩ := id E
  by_cases hlt : i < items.length
  · have hv : items.toArray[i]? = some items[i] := by simp [hlt]
    refine wpAny_pyNext_enum_item en ite li hv d1 fun h' ho hit' hT hsz hk => ?_
    have st1 : Stp [e, it] s' { s' with heap := h', toks := s'.toks + 1 } := by
      refine ⟨by show s'.heap.objs.size ≤ h'.objs.size; omega, fun b o g _ hb => hk b o (fun q => hb (by simp [q])) (fun q => hb (by simp [q])) g, fun H hs hF g K => oldK_below (fun b o hb e' => hk b o ?_ ?_ e') K, Nat.le_succ _, rfl, .refl _, fun P hP t => t.kept fun o g => hk P o (fun q => hP (by simp [q])) (fun q => hP (by simp [q])) g⟩
      · exact Nat.ne_of_lt (Nat.lt_of_lt_of_le hb (hF e (by simp)))
      · exact Nat.ne_of_lt (Nat.lt_of_lt_of_le hb (hF it (by simp)))
    refine wpAny_letOwnedTupleGo_enum ho fun h2 he2 hs2 => ?_
    have st2 : Stp [e] ({ s' with heap := h', toks := s'.toks + 1 } : Shared) { s' with heap := h2, toks := s'.toks + 1 } := Stp.same (t := s'.toks + 1) hs2 (Nat.le_refl _)
    have st12 : Stp [e, it] s' { s' with heap := h2, toks := s'.toks + 1 } := st1.seq st2 fun a ha => .inl (by rw [List.mem_singleton.mp ha]; exact .head _)
    have hel : e < s'.heap.objs.size := Heap.lt_size en
    have hLl : L < s'.heap.objs.size := by obtain ⟨o, _, _, q, _⟩ := ns; exact Heap.lt_size q
    have hT2 : h2.get? s'.heap.objs.size = some { cls := .type "tuple", data := .seq #[.int i s'.toks, items[i]] } := (hs2.2 _ (Nat.ne_of_gt hel)).trans hT
    have hi2 : B ≤ e ∧ B ≤ it := ⟨b2, b3⟩
    have I2 := I.on k st12 fun u hu => by
      rcases List.mem_cons.mp hu with rfl | hu
      · exact b2
      · rw [List.mem_singleton.mp hu]; exact b3
    have ns2 := nsOn ns st12 (by simp [d4, d5])
    have E2 : EnumAt h2 e it l (i + 1) items.toArray := by
      obtain ⟨oi, g1, g2, g3⟩ := hit'
      obtain ⟨ol, f1, f2, f3⟩ := li
      refine ⟨⟨_, by simpa using he2⟩, ⟨oi, (hs2.2 it (Ne.symm d1)).trans g1, g2, g3⟩, ⟨ol, (hs2.2 l d2).trans (hk l ol d2 d3 f1), f2, f3⟩⟩
    refine wpAny_mono (turn i items[i] s'.heap.objs.size s'.toks { s' with heap := h2, toks := s'.toks + 1 } (by simp [hlt]) I2 ⟨m, ns2⟩ (Nat.ne_of_gt hLl) hT2) (fun _ s₂ h => wpAny_mono h (fun f s₃ h3 => ?_) fun _ _ z => z.elim) fun _ _ z => z.elim
    obtain ⟨rfl, x3, n3, I3⟩ := h3
    refine ⟨items.length - (i + 1), by omega, i + 1, rfl, hlt, ((x.trans (st12.trans x3)).cut fun u hu => ?_), I3, n3, E2.on (s := { s' with heap := h2, toks := s'.toks + 1 }) x3 (by simpa using Ne.symm d4) (by simpa using Ne.symm d5) (by simpa using d6)⟩
    have hu : u ∈ [e, it, L] := hu
    simp only [List.mem_cons, List.not_mem_nil, or_false] at hu
    rcases hu with rfl | rfl | rfl
    · exact .inr z2
    · exact .inr z3
    · exact .inr z1
  · have hn : items.toArray[i]? = none := by simp; omega
    refine wpAny_up (wpAny_pyNext_enum_end hh en ite li hn fun h' hx u => wpAny_execs_nil ?_)
    have st : Stp [it] s' { s' with heap := h' } := Stp.extBut (t := s'.toks) hx u
    exact done _ ((x.trans st).cut fun u hu => .inr (by
      have hu : u ∈ [it] := hu
      rw [List.mem_singleton.mp hu]; exact z3)) (I.on k st fun u hu => by rw [List.mem_singleton.mp hu]; exact b3) ⟨m, nsOn ns st (by simpa using d5)⟩
end
end Mine
end
section
open PySem PySem.W PyProof.Rows
set_option maxRecDepth 100000
namespace Mine
/-- the first of a list -/
noncomputable def cutD : D → D → Option D
  | .list l, .int i => if 0 ≤ i ∧ i ≤ 1000 ∧ l.length ≤ 1000 then some (.list (l.take i.toNat)) else none
  | _, _ => none
noncomputable def Ops.cuts (o : Ops) : Ops := { o with cut := cutD }
theorem RepL.take {O : List Addr} {h : Heap} : ∀ {vs : List Value} {ds : List D} (j : Nat), RepL O h vs ds → RepL O h (vs.take j) (ds.take j)
  | _, _, 0, _ => by rw [List.take_zero, List.take_zero]; exact .nil
  | _, _, _ + 1, .nil => .nil
  | _, _, j + 1, .cons a b => .cons a (b.take j)
theorem upto_pick (vs : List Value) {i : Int} (h : 0 ≤ i) : slicePick vs.toArray none (some i) none = (vs.take i.toNat).toArray := by
  have e : sliceBounds none (some i) none vs.toArray.size = (((0 : Nat) : Int), ((min i.toNat vs.toArray.size : Nat) : Int), 1) := by
    simp only [sliceBounds, Option.getD_none, show (1 : Int) > 0 by decide, if_true, if_neg (show ¬ (i < 0) by omega)]
    congr 1
    congr 1
    omega
  rw [kmk_pick_nat _ e]
  congr 1
  show (vs.drop 0).take (min i.toNat vs.toArray.size - 0) = _
  rw [List.drop_zero, Nat.sub_zero, List.size_toArray, kmk_take_min]
section
variable {prog : Program} {w : World} {K : Frag} {B : Nat}
theorem cut_ok {a b d : D} (h : cutD a b = some d) {A : Around} {O : List Addr} {s : Shared} {va vb : Value} {sl : Addr} (value u : Expr) (p : Pos) (hO : OLow O s) (hsl : s.heap.get? sl = some { cls := .type "slice", data := .fields #[.none, vb, .none] }) (ra : Rep O s.heap va a) (rb : Rep O s.heap vb b) :
    Gives prog w O A (subscriptTail value (.Slice none (some u) none p) va (.ref sl)) s d := by
  intro Q E q
  unfold cutD at h
  split at h
  · rename_i l i
    split at h
    · rename_i hcc
      cases h
      obtain ⟨t, rfl⟩ := rb.inv
      obtain ⟨a, o, vs, m, rfl, ha, ho, hc, hd, rs⟩ := ra.inv
      · have hT : s.TypeIs (.ref a) "list" := ⟨o, ho, hc⟩
        have hsz : vs.toArray.size ≤ sizeLine := by
          rw [List.size_toArray, rs.length]
          exact Nat.le_trans hcc.2.2 (by decide)
        have P : Stp [] s { s with heap := s.heap.push { cls := .type "list", data := .seq (vs.take i.toNat).toArray } } := .push ..
        have fin : wpAny (model prog w) A (subscripted (.Slice none (some u) none p) false (.ref a) (.ref sl)) (fun r s₃ => wpAny (model prog w) A (letTemporaryGo value (.ref a) r >>= fun _ => pure r) Q E s₃) E s := by
          show wpAny _ _ (operate [.ref sl, .ref a] (getItem (.ref a) (.ref sl))) _ _ _
          refine wpAny_operating (wpAny_getItem_list_slice ⟨o, ho, hc, m, hd⟩ ⟨_, hsl, rfl, rfl⟩ .none (.int i t) .none (by simp) (wpAny_bind (wpAny_letTemporaryGo (wpAny_pure ?_))) hsz)
          rw [upto_pick _ hcc.1]
          exact q _ _ P (.list (fun hm => absurd (hO _ hm) (Nat.lt_irrefl _)) (Heap.get?_push_size _ rfl) rfl rfl ((rs.take _).on P))
        unfold subscriptTail
        refine wpAny_bind ?_
        rw [getitemInPython_of_ne hT.not_modules]
        refine wpAny_bind (wpAny_specialOf hT list_getitem_lookup ?_)
        first
          | exact wpAny_pure (wpAny_bind fin)
          | exact wpAny_bind (wpAny_pure (wpAny_bind fin))
          | exact wpAny_bind fin
    · cases h
  · cases h
theorem cuts_ok {n : Nat} {ops : Ops} (ok : OpsOk prog w K B n ops) : OpsOk prog w K B n ops.cuts :=
  ⟨ok.bin, ok.cmp, ok.tru, ok.attr, ok.item, fun h _ _ _ _ _ _ value u p _ _ hO hsl ra rb => cut_ok h value u p hO hsl ra rb, ok.call, ok.meth, ok.texts, ok.fmt, ok.gens⟩
end
end Mine
end
section
open PySem PySem.W PyProof.Rows
set_option maxRecDepth 1000000
set_option maxHeartbeats 1000000
namespace Mine
variable {P : Params} {prog : Program} {w : World} {B : Nat}
/-- a number whose mixing stays within what is multiplied at once -/
noncomputable def MixOk (x : Int) : Prop := ∀ y : Int, 0 ≤ y → y ≤ 60 → mulFits (seedV x y) (seedV x y) = true ∧ mulFits (seedV x y * seedV x y) (seedV x y) = true
theorem fits7919 (y : Int) : mulFits y 7919 = true := by
  have : decide (Builtin.Int.intBits 7919 > shortFactorBits) = false := by decide +kernel
  unfold mulFits
  rw [this, Bool.and_false, Bool.false_and]
  rfl
noncomputable def absV (x : Int) : Int := if x < 0 then -x else x
noncomputable def greatV (x : Int) : Int := (absV x).fmod 1000000000000000000000000000000
theorem great_small (x : Int) : Small (greatV x) := ⟨Int.fmod_nonneg_of_pos _ (by decide), Int.lt_trans (Int.fmod_lt_of_pos _ (by decide)) (by decide)⟩
section
variable {n : Nat} {x : Int} {i : Nat} {l : List D}
theorem call_mix {y : Int} (h : MixOk x) (h0 : 0 ≤ y) (h1 : y ≤ 60) : (OO P (n + 2)).call (.glob (.ref 737)) [.int x, .int y] [] = some (.int (mixV x y)) := call_fn2 (by kernel_rfl) rfl (mix737 (n := n) (fits7919 y) (h y h0 h1).1 (h y h0 h1).2)
theorem call_abs : (OO P (n + 1)).call (.glob (.builtin "abs")) [.int x] [] = some (.int (absV x)) := call_blt rfl rfl rfl
theorem pow1030 : (OO P (n + 1)).bin .Pow (.int 10) (.int 30) = some (.int 1000000000000000000000000000000) := by kernel_rfl
noncomputable def A784 (P : Params) : List Expr := match (bodyOf (F784 P)).getD 1 default with
  | .For _ _ [.If (.UnaryOp _ (.Call _ es _ _) _) _ _ _] _ _ => es
  | _ => []
noncomputable def T784 (P : Params) : Expr := match (bodyOf (F784 P)).getD 1 default with
  | .For t _ _ _ _ => t
  | _ => default
noncomputable def L784 (P : Params) : List Stmt := bodyFor ((bodyOf (F784 P)).getD 1 default)
noncomputable def V784 (P : Params) : Expr := match (bodyOf (F784 P)).getD 1 default with
  | .For _ (.Call _ [.Subscript v _ _] _ _) _ _ _ => v
  | _ => default
noncomputable def I784 (P : Params) : List Expr := match (bodyOf (F784 P)).getD 1 default with
  | .For _ (.Call _ es _ _) _ _ _ => es
  | _ => []
theorem args784 (hx : MixOk x) (hi : i ≤ 9) : wEs (wE ((ctx (OO P (n + 21)) (F784 P) 784).pc ⟨[("number", .int x), ("place", .int i)], .none⟩) 40) (A784 P) (· = [.int (mixV x i), .int (mixV x (i + 50)), .int (greatV x)]) :=
  wEs_cons rfl (e_call rfl rfl (wEs_cons rfl (e_nm (nm rfl rfl) rfl) (wEs_cons rfl (e_nm (nm rfl rfl) rfl) (wEs_nil rfl))) (call_mix hx (by omega) (by omega)) rfl)
    (wEs_cons rfl (e_call rfl rfl (wEs_cons rfl (e_nm (nm rfl rfl) rfl) (wEs_cons rfl (e_bin (e_nm (nm rfl rfl) rfl) rfl add_i rfl) (wEs_nil rfl))) (call_mix hx (by omega) (by omega)) rfl)
      (wEs_cons rfl (e_bin (e_call rfl rfl (wEs_cons rfl (e_nm (nm rfl rfl) rfl) (wEs_nil rfl)) call_abs rfl) (e_bin rfl rfl pow1030 rfl) (mod_i rfl) rfl) (wEs_nil rfl)))
theorem addl {a b : List D} (h : a.length + b.length ≤ 1000) : (OO P (n + 1)).bin .Add (.list a) (.list b) = some (.list (a ++ b)) := bin_of (if_pos h)
theorem iter784 (hl : l.length ≤ 900) : evsWith (ev (⟨(F784 P).scope, ⟨[("script", .list l)], .none⟩, globIn (KK P), (OO P (n + 21)).cuts⟩ : PC) 40) (I784 P) = some [.list ((l ++ [D.int 11, D.int 29, D.int 47]).take 6)] := by
  have h1 : wE ((ctx ((OO P (n + 21)).cuts) (F784 P) 784).pc ⟨[("script", .list l)], .none⟩) 39 (V784 P) (· = .list (l ++ [D.int 11, D.int 29, D.int 47])) :=
    e_bin (e_nm (nm rfl rfl) rfl) rfl (addl (by show l.length + 3 ≤ 1000; omega)) rfl
  obtain ⟨d, hd, rfl⟩ := wE_ok (g' := globIn (KK P)) (gl_ok P) h1
  have hd : ev (⟨(F784 P).scope, ⟨[("script", .list l)], .none⟩, globIn (KK P), (OO P (n + 21)).cuts⟩ : PC) 39 (V784 P) = some (.list (l ++ [D.int 11, D.int 29, D.int 47])) := hd
  have e : evsWith (ev (⟨(F784 P).scope, ⟨[("script", .list l)], .none⟩, globIn (KK P), (OO P (n + 21)).cuts⟩ : PC) 40) (I784 P) = (match (match ev (⟨(F784 P).scope, ⟨[("script", .list l)], .none⟩, globIn (KK P), (OO P (n + 21)).cuts⟩ : PC) 39 (V784 P) with
      | some a => cutD a (.int 6)
      | none => none) with
    | some d => some [d]
    | none => none) := rfl
  rw [e, hd]
  show (match (if (0 : Int) ≤ 6 ∧ (6 : Int) ≤ 1000 ∧ (l ++ [D.int 11, D.int 29, D.int 47]).length ≤ 1000 then some (D.list ((l ++ [D.int 11, D.int 29, D.int 47]).take (6 : Int).toNat)) else none) with
    | some d => some [d]
    | none => none) = _
  rw [if_pos ⟨by decide, by decide, by rw [List.length_append]; show l.length + 3 ≤ 1000; omega⟩]
  rfl
theorem pre784 : wX (ctx (OO P (n + 21)) (F784 P) 784) 60 ⟨[("script", .list l)], .none⟩ ((bodyOf (F784 P)).take 1) (fun fl ρ => fl = .next ∧ ρ = ⟨[("script", .list l)], .none⟩) := by
  refine x_if false (t_or false (t_cmp (a := .str "strict") (b := .str "strict") rfl ⟨_, rfl, rfl⟩ rfl cmp_strN tru_b rfl) (t_or false (t_cmp (a := .str "implicit") (b := .str "implicit") rfl ⟨_, rfl, rfl⟩ rfl cmp_strN tru_b rfl) (t_nil rfl))) (x_done (x_nil ⟨rfl, rfl⟩))
theorem enum_name (P : Params) : globIn (KK P) "enumerate" = some (.type "enumerate") := by kernel_rfl
end
end Mine
end
section
open PySem PySem.W PyProof.Rows
set_option maxRecDepth 1000000
set_option maxHeartbeats 1000000
namespace Mine
variable {P : Params} {prog : Program} {w : World} {B : Nat} {n : Nat}
/-- one turn of the law's loop -/
theorem turn784 (k : Kok (KK P) B) {A : Around} (hA : Room A (n + 21)) {env : Env} {L : Addr} (he : EnvOk env L) (hsc : ScIs (KK P) env (F784 P).scope) (hfr : A.frames = some [env]) (hfL : env.frame = some L) (hBL : B ≤ L) {i : Nat} {x : Int} {tx t : Tok} {T : Addr} {s : Shared} (hx : MixOk x) (hi : i ≤ 9) (I : Inv (KK P) B s) {m : Str → Option Value} (ns : s.heap.Ns L m) (hTL : T ≠ L)
    (hT : s.heap.get? T = some { cls := .type "tuple", data := .seq #[.int i t, .int x tx] }) :
    wpAny (model prog w) A (assign (T784 P) env (.ref T)) (fun _ s₂ => wpAny (model prog w) A (execs (L784 P) env) (fun f s₃ => f = .next ∧ Stp [L] s s₃ ∧ (∃ m, s₃.heap.Ns L m) ∧ Inv (KK P) B s₃) (fun _ _ => False) s₂) (fun _ _ => False) s := by
  have ok := ops_ok (prog := prog) (w := w) k (ownv := OWN) (n + 21)
  let cc : FC := ⟨(F784 P).scope, globIn (KK P), OO P (n + 21), OWN 784, settable (KK P), 40⟩
  have hs : St (KK P) B [L] [L] L ⟨[], .none⟩ L s := ⟨I, ⟨⟨m, ns, fun y d e => (by cases e), trivial⟩, .head _, fun a ha => ⟨ha, by rw [List.mem_singleton.mp ha]; exact Nat.le_refl _⟩⟩, hBL⟩
  have hO : OLow [L] s := fun a ha => by
    rw [List.mem_singleton.mp ha]
    obtain ⟨o, _, _, q, _⟩ := ns
    exact Heap.lt_size q
  refine bindT_ok (c := cc) k hA he hsc (d := .tup [.int i, .int x]) (ρ' := ⟨[("number", .int x), ("place", .int i)], .none⟩) rfl hs hO (.tup (vs := [.int i t, .int x tx]) (by simpa using hTL) hT rfl rfl (.cons (.int _ _) (.cons (.int _ _) .nil))) fun s₂ a₂ => ?_
  have hf : ∀ e d, ev (cc.pc ⟨[("number", .int x), ("place", .int i)], .none⟩) 40 e = some d → EvOk prog w (KK P) B (cc.pc ⟨[("number", .int x), ("place", .int i)], .none⟩) A [L] [L] L L env e d := fun e d h => ev_ok (c := cc.pc ⟨[("number", .int x), ("place", .int i)], .none⟩) k ok (fun _ _ e => e) hA he hsc h
  obtain ⟨ds, hds, rfl⟩ := wEs_ok (F := wE ((ctx (OO P (n + 21)) (F784 P) 784).pc ⟨[("number", .int x), ("place", .int i)], .none⟩) 40) (f := ev (cc.pc ⟨[("number", .int x), ("place", .int i)], .none⟩) 40) (fun e Q h => wE_ok (g' := globIn (KK P)) (gl_ok P) h) (args784 (P := P) (n := n) hx hi)
  refine wpAny_execs_cons (wpAny_If (wpAny_isTrue_Not (wpAny_isTrue_value (call_goes k hf (hd := .glob (.ref 777)) (ds := [.int (mixV x i), .int (mixV x (i + 50)), .int (greatV x)]) (ks := []) ?_ hds rfl a₂.st a₂.low fun g' s' x' rg => ?_))))
  · exact congrArg (Option.map globD) (gl_ok P "_law_case" _ rfl)
  have hg : g' = .ref 777 := rg.inv
  subst hg
  have I' := a₂.st.inv.on k x'
  refine ⟨keeps_K (keeper_fn (ok777 P).at_) _ I'.X, fun vs kv ra rk => ?_⟩
  have hkv : kv = [] := rk.inv
  subst hkv
  obtain ⟨m2, ns2, _, _⟩ := (a₂.st.on k x').loc.ns
  have hf1 : [env].filterMap (·.frame) = [L] := by rw [List.filterMap_cons, hfL]; rfl
  refine wpAny_up (case777 (n := n) k hA.d (great_small x) I' (a₂.low.on x') ra (outer := [env]) hfr (Heap.FunFrames.cons (by rw [he.kind]; decide) hfL ns2 (none_empty _) trivial) (fun u hu => ?_) fun v s3 s4 fw y rv u => ?_)
  · rw [hf1] at hu
    rw [List.mem_singleton.mp hu]
    exact ⟨hBL, .head _⟩
  · obtain rfl := rv.inv
    refine wpAny_truthy_bool ?_
    show wpAny _ _ (execs [] env) _ _ s4
    refine wpAny_execs_nil (wpAny_execs_nil ⟨rfl, ?_, ?_, ?_⟩)
    all_goals (rw [hf1] at fw; have fw2 := fw.on (.head _) ns2 y)
    · exact (a₂.stp.seq (x'.wide (W := [L])) fun a h => .inl h).seq (fw2.stp u.1) fun a h => .inl h
    · exact ⟨m2, fw2.ns ns2⟩
    · exact I'.flew k fw2 (fun u hu => by rw [List.mem_singleton.mp hu]; exact hBL) hBL ns2
theorem ints_of {O : List Addr} {h : Heap} : ∀ {vs : List Value} {xs : List Int}, RepL O h vs (xs.map .int) → ∀ {i : Nat} {v : Value}, vs[i]? = some v → ∃ x t, x ∈ xs ∧ v = .int x t
  | [], [], _, i, v, e => by simp at e
  | v :: vs, x :: xs, .cons r rs, 0, u, e => by
    cases r
    simp at e
    exact ⟨x, _, .head _, e.symm⟩
  | v :: vs, x :: xs, .cons r rs, i + 1, u, e => by
    obtain ⟨y, t, hy, q⟩ := ints_of rs (i := i) (v := u) (by simpa using e)
    exact ⟨y, t, .tail _ hy, q⟩
/-- the law -/
theorem law784 (k : Kok (KK P) B) {A : Around} (hA : RoomD A (n + 21)) (hfr : A.frames = some []) {O : List Addr} {s : Shared} (I : Inv (KK P) B s) (hO : OLow O s) {vs : List Value} {xs : List Int} (hl : xs.length ≤ 900) (hfit : ∀ x ∈ xs, MixOk x) (hfix : MixOk 11 ∧ MixOk 29 ∧ MixOk 47) (ra : RepL O s.heap vs [.list (xs.map .int)]) {Q E : Value → Shared → Prop}
    (hQ : ∀ s', Stp [] s s' → Q (.bool true) s') : wpAny (model prog w) A (call (.ref 784) vs []) Q E s := by
  have ok := ops_ok (prog := prog) (w := w) k (ownv := OWN) (n + 21)
  refine call_body k hA (ok784 P).at_ (ok784 P).body (b := [("script", .list (xs.map .int))]) (by kernel_rfl) (kws := []) (kv := []) I hO ra .nil fun env s₁ hA' he hsc hfe hst hlow st hLs => ⟨fun _ _ => False, ?_, fun _ _ z => z.elim⟩
  have split : bodyOf (F784 P) = (bodyOf (F784 P)).take 1 ++ ((bodyOf (F784 P)).getD 1 default :: (bodyOf (F784 P)).drop 2) := by kernel_rfl
  rw [split]
  let cc : FC := ⟨(F784 P).scope, globIn (KK P), OO P (n + 21), OWN 784, settable (KK P), 40⟩
  obtain ⟨fl, ρ', e0, rfl, rfl⟩ := wX_ok (g' := globIn (KK P)) (s' := settable (KK P)) (gl_ok P) (st_ok P) _ (pre784 (P := P) (n := n) (l := xs.map .int))
  have e : exs cc 60 ⟨[("script", .list (xs.map .int))], .none⟩ ((bodyOf (F784 P)).take 1) = some (.next, ⟨[("script", .list (xs.map .int))], .none⟩) := e0
  refine exs_pre (c := cc) k ok (fun _ _ e => e) (fun _ _ e => e) hA' he hsc (O₀ := O) hO 60 e hst hlow (fun a ha => .tail _ ha) fun s₂ O₂ W₂ af => ?_
  have cutL : ∀ {s3 : Shared}, Stp [s.heap.objs.size] s₁ s3 → Stp [] s s3 := fun x => (st.trans x).cut fun u hu => .inr (by
    have hu : u ∈ [s.heap.objs.size] := hu
    rw [List.mem_singleton.mp hu]
    exact Nat.le_refl _)
  let cp : PC := ⟨(F784 P).scope, ⟨[("script", .list (xs.map .int))], .none⟩, globIn (KK P), (OO P (n + 21)).cuts⟩
  have hf : ∀ e d, ev cp 40 e = some d → EvOk prog w (KK P) B cp (A.deeper env) O₂ W₂ s.heap.objs.size s.heap.objs.size env e d := fun e d h => ev_ok (c := cp) k (cuts_ok ok) (fun _ _ e => e) hA' he hsc h
  refine wpAny_execs_cons (wpAny_For ?_ (noFold rfl))
  refine call_goes (c := cp) k hf (hd := .glob (.type "enumerate")) (ks := []) ?_ (iter784 (P := P) (n := n) (l := xs.map .int) (by rw [List.length_map]; exact hl)) rfl af.st af.low fun g' s' x' rg => ?_
  · exact congrArg (Option.map globD) (enum_name P)
  have hg : g' = .type "enumerate" := rg.inv
  subst hg
  refine ⟨keeper_machine (.inr ⟨_, rfl⟩) _, fun vs' kv ra' rk => ?_⟩
  have hkv : kv = [] := rk.inv
  subst hkv
  obtain ⟨_, _, rfl, r1, r2⟩ := ra'.inv
  obtain rfl := r2.inv
  obtain ⟨a, o, items, m, rfl, ha, ho, hc, hd, rs⟩ := r1.inv
  have hLO : s.heap.objs.size ∈ O₂ := af.oSup _ (.head _)
  have x'' : Stp [] s s' := (cutL af.stp).tr x'
  have I' := af.st.inv.on k x'
  obtain ⟨m2, ns2, _, _⟩ := (af.st.on k x').loc.ns
  have hLl : s.heap.objs.size < s'.heap.objs.size := by obtain ⟨o, _, _, q, _⟩ := ns2; exact Heap.lt_size q
  have hal : a < s'.heap.objs.size := Heap.lt_size ho
  refine call_enumerate_list ⟨o, ho, hc, m, hd⟩ fun h' hE hI hsz hk => ?_
  have x3 : Stp [] s' { s' with heap := h' } := .grow (t := s'.toks) (by show _ ≤ h'.objs.size; omega) hk (Nat.le_refl _)
  refine wpAny_pyIter_enum hE ?_
  have rs : RepL O₂ s'.heap items ((xs ++ [11, 29, 47]).take 6 |>.map .int) := by
    have e1 : ((xs ++ [11, 29, 47]).take 6).map D.int = (xs.map D.int ++ [D.int 11, D.int 29, D.int 47]).take 6 := by
      rw [List.map_take, List.map_append]
      rfl
    rw [e1]; exact rs
  have hB0 : B ≤ s.heap.objs.size := I.base
  refine enum_loop (L := s.heap.objs.size) (it := s'.heap.objs.size) (l := a) (items := items) (s₀ := s) k hA'.handled ⟨hB0, by omega, by omega⟩ ⟨Nat.le_refl _, by omega, by omega⟩ ⟨Nat.succ_ne_self _, Nat.ne_of_lt (Nat.lt_succ_of_lt hal), Nat.ne_of_lt hal, Nat.ne_of_lt (Nat.lt_succ_of_lt hLl), Nat.ne_of_lt hLl, fun q => ha (q ▸ hLO)⟩ (fun i v T t s5 hv I5 n5 hTL hT => ?_) (fun s5 x5 I5 n5 => ?_) (x''.tr x3) (I'.on k x3) ⟨m2, nsOn ns2 x3 (by simp)⟩ ⟨⟨_, hE⟩, hI, ⟨o, hk _ _ ho, hc, m, hd⟩⟩
  · obtain ⟨x, tx, hx, rfl⟩ := ints_of rs hv
    obtain ⟨m5, n5⟩ := n5
    have hi : i ≤ 9 := by
      have h1 : i < items.length := (List.getElem?_eq_some_iff.mp hv).1
      have h2 := rs.length
      rw [List.length_map, List.length_take] at h2
      omega
    have hxo : MixOk x := by
      rcases List.mem_append.mp (List.mem_of_mem_take hx) with h | h
      · exact hfit x h
      · simp only [List.mem_cons, List.not_mem_nil, or_false] at h
        rcases h with rfl | rfl | rfl
        · exact hfix.1
        · exact hfix.2.1
        · exact hfix.2.2
    exact turn784 (n := n) k hA' he hsc (by show A.frames.map _ = _; rw [hfr]; rfl) hfe.2 hB0 hxo hi I5 n5 hTL hT
  · obtain ⟨m5, n5⟩ := n5
    show wpAny _ _ (execs ((bodyOf (F784 P)).drop 2) env) _ _ s5
    obtain ⟨fl6, ρ6, e6, h6⟩ := wX_ok (g' := globIn (KK P)) (s' := settable (KK P)) (gl_ok P) (st_ok P) 60 (show wX (ctx (OO P (n + 21)) (F784 P) 784) 60 ⟨[], .none⟩ ((bodyOf (F784 P)).drop 2) (endQ (.bool true)) from x_ret rfl rfl)
    have hs5 : St (KK P) B [s.heap.objs.size] [s.heap.objs.size] s.heap.objs.size ⟨[], .none⟩ s.heap.objs.size s5 := ⟨I5, ⟨⟨m5, n5, fun y d e => (by cases e), trivial⟩, .head _, fun a ha => ⟨ha, by rw [List.mem_singleton.mp ha]; exact Nat.le_refl _⟩⟩, hB0⟩
    have hO5 : OLow [s.heap.objs.size] s5 := fun a ha => by
      rw [List.mem_singleton.mp ha]
      obtain ⟨o, _, _, q, _⟩ := n5
      exact Heap.lt_size q
    refine exs_ok (c := cc) k ok (fun _ _ e => e) (fun _ _ e => e) hA' he hsc (O₀ := []) (fun _ h => by cases h) 60 _ _ _ _ e6 _ _ _ hs5 hO5 (fun _ h => by cases h) _ _ fun flv s6 O6 W6 a6 fi => ?_
    have x6 : Stp [] s s6 := (x5.trans a6.stp).cut fun u hu => .inr (by
      have hu : u ∈ [s.heap.objs.size] := hu
      rw [List.mem_singleton.mp hu]
      exact Nat.le_refl _)
    cases fl6 with
    | ret d =>
      have h6 : d = .bool true := h6
      subst h6
      cases flv <;> first | exact fi.elim | skip
      rename_i v
      have hv : v = .bool true := by
        have fi : Rep [] s6.heap v (.bool true) := fi
        exact fi.inv
      subst hv
      exact hQ s6 x6
    | next => exact absurd h6 (by intro z; cases z)
    | brk => exact h6.elim
    | cont => exact h6.elim
end Mine
end
section
open PySem PySem.W PyProof.Rows
set_option maxRecDepth 1000000
set_option maxHeartbeats 1000000
namespace Mine
/-- bits -/
theorem bits_le {x : Int} {k : Nat} (h : x.natAbs < 2 ^ k) : Builtin.Int.intBits x ≤ k := by
  unfold Builtin.Int.intBits
  split
  · exact Nat.zero_le _
  · rename_i hx
    have h0 : x.natAbs ≠ 0 := by
      intro q
      exact hx (by rw [beq_iff_eq]; omega)
    exact (Nat.log2_lt h0).mpr h
theorem mulFits_of {a b : Int} {j k : Nat} (ha : a.natAbs < 2 ^ j) (hb : b.natAbs < 2 ^ k) (h : j + k ≤ 134217728) : mulFits a b = true := by
  have h1 := bits_le ha
  have h2 := bits_le hb
  have h3 : Builtin.Int.intTooBig ((Builtin.Int.intBits a : Int) + (Builtin.Int.intBits b : Int)) = false := by
    unfold Builtin.Int.intTooBig
    have e : bitsLine = 134217728 := by decide
    rw [decide_eq_false_iff_not, e]
    omega
  unfold mulFits
  rw [h3, Bool.and_false]
  rfl
theorem abs_mul_lt {a b : Int} {j k : Nat} (ha : a.natAbs < 2 ^ j) (hb : b.natAbs < 2 ^ k) : (a * b).natAbs < 2 ^ (j + k) := by
  rw [Int.natAbs_mul, Nat.pow_add]
  exact Nat.mul_lt_mul'' ha hb
theorem seed_lt {x y : Int} {k : Nat} (h : x.natAbs < 2 ^ k) (hk : 25 ≤ k) (h0 : 0 ≤ y) (h1 : y ≤ 60) : (seedV x y).natAbs < 2 ^ (k + 1) := by
  have h2 : 2 ^ 25 ≤ 2 ^ k := Nat.pow_le_pow_right (by decide) hk
  have e : (2 : Nat) ^ 25 = 33554432 := by decide
  rw [e] at h2
  rw [Nat.pow_succ]
  generalize (2 : Nat) ^ k = t at h h2 ⊢
  unfold seedV
  omega
theorem mixOk_of {x : Int} {k : Nat} (h : x.natAbs < 2 ^ k) (hk : 25 ≤ k) (hk2 : k ≤ 1048576) : MixOk x := fun y h0 h1 => by
  have s := seed_lt h hk h0 h1
  exact ⟨mulFits_of s s (by omega), mulFits_of (abs_mul_lt s s) s (by omega)⟩
theorem mixOk_fix : MixOk 11 ∧ MixOk 29 ∧ MixOk 47 := ⟨mixOk_of (k := 25) (by decide) (by decide) (by decide), mixOk_of (k := 25) (by decide) (by decide) (by decide), mixOk_of (k := 25) (by decide) (by decide) (by decide)⟩
theorem lt_bits {i : Int} {k : Nat} (h : Builtin.Int.intBits i ≤ k) : i.natAbs < 2 ^ k := by
  unfold Builtin.Int.intBits at h
  split at h
  · rename_i hx
    rw [beq_iff_eq.mp hx]
    exact Nat.pow_pos (by decide)
  · rename_i hx
    have h0 : i.natAbs ≠ 0 := by
      intro q
      exact hx (by rw [beq_iff_eq]; omega)
    exact (Nat.log2_lt h0).mp h
theorem mixOk_layable {ns : List Int} (h : PyData.layable0 (.list (ns.map .int)) = true) : ∀ x ∈ ns, MixOk x := fun x hx =>
  mixOk_of (lt_bits (intBits_le_of_item hx h)) (by decide) (Nat.le_refl _)

/-- a code's table, looked at -/
noncomputable def triB : List Value → Bool
  | [] => true
  | .int _ _ :: .int _ _ :: _ :: rest => triB rest
  | _ => false
theorem triB_ok : ∀ {l : List Value}, triB l = true → TriplesOk l := by
  intro l
  fun_induction triB l with
  | case1 => exact fun _ => trivial
  | case2 _ _ _ _ _ rest ih => exact ih
  | case3 => exact fun h => by cases h
noncomputable def tabB (K : Frag) (a : Addr) : Bool := match K.lookup a with
  | some ⟨.none, none, .fields ps, ⟨[]⟩⟩ => triB ps.toList
  | _ => false
theorem tabB_ok {K : Frag} {h : Heap} (X : K.In h) {a : Addr} (e : tabB K a = true) : TabOk h a := by
  unfold tabB at e
  split at e
  · rename_i ps q
    exact ⟨ps, X _ _ q, triB_ok e⟩
  · cases e
theorem lookup_mem2 {K : Frag} {a : Addr} {o : Obj} : K.lookup a = some o → (a, o) ∈ K := by
  induction K with
  | nil => intro h; cases h
  | cons p K ih =>
    intro h
    rw [List.lookup_cons] at h
    cases hb : a == p.1 with
    | true =>
      rw [hb] at h
      cases h
      rw [eq_of_beq hb]
      exact .head _
    | false =>
      rw [hb] at h
      exact .tail _ (ih h)
theorem allIn_mem {h : Heap} {a : Addr} {o : Obj} (K : Frag) : X.AllIn h K → (a, o) ∈ K → h.get? a = some o := by
  induction K with
  | nil => intro _ hm; exact absurd hm (List.not_mem_nil)
  | cons p K ih =>
    intro A hm
    have A1 : h.get? p.1 = some p.2 := A.1
    have A2 : X.AllIn h K := A.2
    rcases List.mem_cons.mp hm with q | q
    · rw [← q] at A1; exact A1
    · exact ih A2 q
theorem tabsIn_code {K : Frag} {a : Addr} (h : a ∈ tabsIn K) : ∃ c o vs, (c, o) ∈ K ∧ o.cls = .type "code" ∧ o.data = .fields vs ∧ (vs[11]? : Option Value) = some (.ref a) := by
  unfold tabsIn at h
  obtain ⟨⟨c, o⟩, hm, e⟩ := List.mem_filterMap.mp h
  dsimp only at e
  split at e
  · rename_i vs h1 h2
    split at e
    · rename_i Q h3
      cases e
      exact ⟨c, o, vs, hm, h1, h2, h3⟩
    · cases e
  · cases e
variable (P : Params)
theorem kk_low : ((KK P).all fun p => Nat.blt p.1 785) = true := by kernel_rfl
theorem kk_tabs : ((tabsIn (KK P)).all fun a => tabB (KZ P) a && Nat.blt a 785) = true := by kernel_rfl
theorem kk_good : ((List.range 785).all fun i => !gtab i || (tabsIn (KK P)).any (Nat.beq i)) = true := by kernel_rfl
variable {P}
theorem kok : Kok (KK P) 785 where
  low a o e := by
    have := List.all_eq_true.mp (kk_low P) _ (lookup_mem2 e)
    exact Nat.blt_eq.mp this
  cls a o e q := by
    have hm := lookup_mem2 e
    unfold KK at hm
    have hb := (List.mem_filter.mp hm).2
    obtain ⟨q1, vs, q2⟩ := q
    unfold notTabB at hb
    simp only [q1, q2] at hb
    cases hb
  cs := by decide
  mg := by decide
  bn := by decide
  tabs a h := by
    have := List.all_eq_true.mp (kk_tabs P) _ h
    rw [Bool.and_eq_true] at this
    exact Nat.blt_eq.mp this.2
theorem gtab_hi {i : Nat} (h : 785 ≤ i) : gtab i = false := by
  unfold gtab
  refine Nat.testBit_lt_two_pow (Nat.lt_of_lt_of_le ?_ (Nat.pow_le_pow_right (by decide) h))
  decide +kernel
theorem goodH {h : Heap} (A : ∀ {a : Addr} {o : Obj}, (a, o) ∈ KK P → h.get? a = some o) : GoodH h := by
  intro a ha o _ _
  have hlt : a < 785 := by
    rcases Nat.lt_or_ge a 785 with q | q
    · exact q
    · rw [gtab_hi q] at ha; cases ha
  have := List.all_eq_true.mp (kk_good P) a (List.mem_range.mpr hlt)
  rw [ha] at this
  obtain ⟨b, hb, e⟩ := List.any_eq_true.mp (show (tabsIn (KK P)).any (Nat.beq a) = true from this)
  have e := Nat.eq_of_beq_eq_true e
  subst e
  obtain ⟨c, o', vs, hm, h1, h2, h3⟩ := tabsIn_code hb
  exact ⟨c, o', vs, A hm, h1, h2, h3⟩
theorem fn_law (P : Params) : nsIn (KK P) mainGlobals "law" = some (some (.ref 784)) := by kernel_rfl
end Mine
end
section
open PySem PySem.W PyProof.Rows
set_option maxRecDepth 1000000
set_option maxHeartbeats 1000000
namespace Mine
theorem reps_of {O : List Addr} {h : Heap} {vs : List Value} {ns : List Int} (x : IntsAre vs ns) : RepL O h vs (ns.map .int) := by
  induction x with
  | nil => exact .nil
  | cons n t _ ih => exact .cons (.int n t) ih
theorem walk_law {prog : Program} {R : WRecords} {w : World} {s₀ s₁ : Shared} {mg mb : Str → Option Value} {fa l : Addr} {ns : List Int} {vs : List Value} {as : List Addr} (A : X.AllIn s₀.heap (KZ w.params)) (hz0 : s₀.heap.objs.size = 785) (ht0 : s₀.toks = 1690)
    (L : Laid R w s₀ s₁ [ofPy (PyData.list (ns.map PyData.int))] [.ref l] as) (g : s₁.heap.Ns mainGlobals mg) (b : s₁.heap.Ns builtinsNs mb) (lim : s₁.heap.NoLimit) (bt : ∀ x : Str, x ≠ "__name__" → mb x = bootBuiltins x) (hmg : mg "law" = some (.ref fa)) (hg : s₁.gens = #[])
    (hL : s₁.heap.IsList l vs.toArray) (hI : IntsAre vs ns) (hlay : (PyData.list (ns.map PyData.int)).layable0 = true) (hc : ¬ (63 : Int) < ns.length) {Q E : Value → Shared → Prop} (hQ : ∀ s', OldK s₁.heap s'.heap → s'.os = s₁.os → AllBare s'.gens → Q (.bool true) s') :
    wpAny (model prog w) callerA (call (.ref fa) [.ref l]) Q E s₁ := by
  have at1 : ∀ {a : Addr} {o : Obj}, (a, o) ∈ KZ w.params → s₁.heap.get? a = some o := fun h => L.keeps _ _ (allIn_mem _ A h)
  have atK : ∀ {a : Addr} {o : Obj}, (a, o) ∈ KK w.params → s₁.heap.get? a = some o := fun h => at1 (List.mem_filter.mp h).1
  have XZ : (KZ w.params).In s₁.heap := fun a o e => at1 (lookup_mem2 e)
  have XK : (KK w.params).In s₁.heap := fun a o e => atK (lookup_mem2 e)
  obtain ⟨_, hsz⟩ := X.script_at L
  have htk : 1690 ≤ s₁.toks := X.script_toks L ht0
  have I : Inv (KK w.params) 785 s₁ := ⟨XK, lim, by omega, by omega, fun a ha => by
    have := List.all_eq_true.mp (kk_tabs w.params) _ ha
    rw [Bool.and_eq_true] at this
    exact tabB_ok XZ this.1, ⟨mg, mb, g, b, bt⟩⟩
  have hfa : fa = 784 := by
    have := mg_of XK g (fn_law w.params)
    rw [hmg] at this
    cases this
    rfl
  subst hfa
  obtain ⟨o, ho, hcls, m, hd⟩ := hL
  refine law784 (n := 0) kok ⟨by decide, fun env => ⟨by show 1 + claimMargin + 1 + 8 * (0 + 21) < recursionLimit; decide, by show 4 + 3 + 16 * (0 + 21) < cLine; decide, rfl, rfl, ⟨_, rfl⟩⟩⟩ rfl I (O := []) (fun _ h => by cases h) (xs := ns) (by omega) (mixOk_layable hlay) mixOk_fix (.cons (.list (by simp) ho hcls hd (reps_of hI)) .nil) fun s' x => ?_
  refine hQ s' (x.old s₁.heap (Nat.le_refl _) (by simp) (goodH atK) (.refl _)) x.os (x.gens.1 ?_)
  rw [hg]
  intro x h
  simp at h
theorem joined : PySem.Challenge.rw_bt5019_01.Holds := by
  refine hz ?_
  intro w s₀ s₁ mg mb G y fa o pm cd doc dV kV ho hd hcd hD hmg hg args vals as L hpre hlay hrd hwl hlo
  refine Ground.open G ?_
  intro T B D TE TW
  obtain ⟨A, _, hz0, ht0⟩ := X.z_facts (K := hz.heap_651) (fun P => by kernel_rfl) y
  clear hD hd ho hcd TE TW B D y
  wrow_args hpre hlay hrd hwl hlo
  refine walk_law A hz0 ht0 L T.g T.b T.nolimit T.builtins hmg hg (by assumption) (by assumption) (by assumption) (by assumption) fun s' x1 x2 x3 => ?_
  refine ⟨.inl ⟨_, .bool true, [], rfl, fun _ => rfl, .bool _, ?_, fun _ => ⟨.nil, by simp⟩⟩, x1, x2, x3⟩
  exact postW_of (by wrow_shape) (w_eq_bool (w_res rfl) w_lit) rfl
end Mine
end
set_option maxRecDepth 100000 in
set_option maxHeartbeats 8000000 in
theorem PySem.Challenge.cw_bt5019_01_holds : PySem.Challenge.rw_bt5019_01.Holds := by
  exact Mine.joined
