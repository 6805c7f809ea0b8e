import PyProof.Rows.All
import Wide.All
import OpenK.AllK
import Wide.FinOn
import KE.KSortTup
import PySem.Challenge.RW_tv0041_01
open PySem PySem.W PyProof.Rows
set_option Elab.async false
namespace Mine
set_option maxRecDepth 100000 in
set_option maxHeartbeats 8000000 in
open_top hd for PySem.Challenge.rw_tv0041_01
end Mine
open PySem.Calls PySem.Spec
set_option maxRecDepth 100000
namespace Mine
/-- no run makes the heap shorter -/
noncomputable abbrev szOf (s : Shared) : Nat := s.heap.objs.size
theorem up_sz (h : Heap) (a : Addr) (f : Obj → Obj) : (h.update a f).objs.size = h.objs.size := by simp [Heap.update]
theorem runs_sz {M : Model} {Γ : PySem.Ctx} {p : Pos} {t : Sem Fin} {fs : List PySem.Frame} {s s' : Shared} {e : PySem.End} (h : Runs M Γ p t fs s e s') : szOf s ≤ szOf s' := by
  induction h <;> (try simp only [szOf, Shared.setGen, Heap.size_push, up_sz] at *) <;> omega
theorem ret_sz {M : Model} {Γ : PySem.Ctx} {p : Pos} {s s' : Shared} {r : Result} (h : Returns M Γ p s r s') : szOf s ≤ szOf s' := runs_sz h
theorem wakes_sz {M : Model} {Γ : PySem.Ctx} {p : Pos} {g : Nat} {r : Resume} {s s' : Shared} {res : GenResult} (h : Wakes M Γ p g r s res s') : szOf s ≤ szOf s' := by
  unfold Wakes at h
  split at h
  · exact h.elim
  · split at h
    · obtain ⟨_, _, hr, _, _, rfl⟩ := h
      exact (runs_sz hr : szOf (s.setGen g .running) ≤ _)
    · rw [h.2]; exact Nat.le_refl _
    · rw [h.2]; exact Nat.le_refl _
  · obtain ⟨_, _, hr, _, _, rfl⟩ := h
    exact (runs_sz hr : szOf (s.setGen g .running) ≤ _)
  all_goals (rw [h.2]; exact Nat.le_refl _)
theorem wp_sz {α : Type} (M : Model) (Γ : PySem.Ctx) (n : Nat) (t : Sem α) : ∀ (Q : α → Pos → Shared → Prop) (E : Value → Pos → Shared → Prop) (p : Pos) (s : Shared), n ≤ szOf s → Sem.wp M Γ t Q E p s →
    Sem.wp M Γ t (fun a p' s' => n ≤ szOf s' ∧ Q a p' s') (fun e p' s' => n ≤ szOf s' ∧ E e p' s') p s := by
  induction t with
  | pure | raise => intro Q E p s hn h; exact ⟨hn, h⟩
  | unsupported | finish | register | yield | fork | await => intro Q E p s _ h; exact h
  | rule _ k ih | point _ k ih => intro Q E p s hn h; exact ih () Q E p s hn h
  | «at» p' k ih => intro Q E p s hn h; exact ih () Q E p' s hn h
  | load a _ k ih => intro Q E p s hn h; obtain ⟨o, ho, h⟩ := h; exact ⟨o, ho, ih o Q E p s hn h⟩
  | update a _ f k ih => intro Q E p s hn h; exact ⟨h.1, ih () Q E p _ (by simpa [szOf, up_sz] using hn) h.2⟩
  | alloc o k ih => intro Q E p s hn h; exact ih _ Q E p _ (by simp only [szOf, Heap.size_push] at hn ⊢; omega) h
  | loadIfAlive a k ih | ask k ih | stack k ih | thread k ih => intro Q E p s hn h; exact ih _ Q E p s hn h
  | fresh k ih => intro Q E p s hn h; exact ih _ Q E p _ hn h
  | choose src m k ih => intro Q E p s hn h; exact ⟨h.1, ih _ Q E p _ hn h.2⟩
  | os q _ k ih => intro Q E p s hn h; exact ih _ Q E p _ hn h
  | call c hd _ _ k ih => intro Q E p s hn h; obtain ⟨r, s', hr, h⟩ := h; exact ⟨r, s', hr, ih r Q E p s' (Nat.le_trans hn (ret_sz hr)) h⟩
  | handled own k ih => intro Q E p s hn h; exact ih _ Q E p s hn h
  | genState g k ih => intro Q E p s hn h; obtain ⟨st, hs, h⟩ := h; exact ⟨st, hs, ih _ Q E p s hn h⟩
  | newGen c k ih => intro Q E p s hn h; exact ih _ Q E p _ hn h
  | resume g r _ k ih => intro Q E p s hn h; obtain ⟨res, s', hw, h⟩ := h; exact ⟨res, s', hw, ih res Q E p s' (Nat.le_trans hn (wakes_sz hw)) h⟩
theorem wpAny_sz {α : Type} {M : Model} {A : Around} {s : Shared} {t : Sem α} {Q : α → Shared → Prop} {E : Value → Shared → Prop}
    (h : wpAny M A t (fun a s' => szOf s ≤ szOf s' → Q a s') (fun e s' => szOf s ≤ szOf s' → E e s') s) : wpAny M A t Q E s := by
  have q : wpAny M A t (fun a s' => szOf s ≤ szOf s' ∧ (szOf s ≤ szOf s' → Q a s')) (fun e s' => szOf s ≤ szOf s' ∧ (szOf s ≤ szOf s' → E e s')) s := fun Γ p hΓ => wp_sz M Γ (szOf s) t _ _ p s (Nat.le_refl _) (h Γ p hΓ)
  exact wpAny_mono q (fun _ _ x => x.2 x.1) fun _ _ x => x.2 x.1
theorem codeAny_sz {M : Model} {A : Around} {s : Shared} {c : Code} {R : Result → Shared → Prop} (h : codeAny M A c (fun r s' => szOf s ≤ szOf s' → R r s') s) : codeAny M A c R s :=
  fun Γ p hc hΓ => by obtain ⟨r, s', hr, hR⟩ := h Γ p hc hΓ; exact ⟨r, s', hr, hR (ret_sz hr)⟩
theorem none_ne {α : Type} {r : α} {P : Prop} (h : none = some r) : P := nomatch h
theorem ff {P : Prop} (h : false = true) : P := absurd h Bool.false_ne_true
theorem no_mem {α : Type} {x : α} {P : Prop} (h : x ∈ ([] : List α)) : P := absurd h List.not_mem_nil
theorem one_all {P : Addr → Prop} {C : Addr} (h : P C) : ∀ a ∈ [C], P a := fun a x => (List.mem_singleton.mp x).symm ▸ h
theorem not_one {C D : Addr} (h : D ≠ C) : D ∉ [C] := fun x => h (List.mem_singleton.mp x)
noncomputable abbrev KF (w : World) : Frag := hd.heap_39 w.params
noncomputable abbrev PG : Program := PySem.Challenge.pw_tv0041_01

/-- abstract values -/
inductive PV where
  | dat (d : PyData)
  | hdr (k : Nat)
  | dct (kvs : List (Str × PV))
  | two (a b : PV)
  | mut (xs : List PyData)
  | inst (d : PyData)
  | self (l : Addr)
  | obj (a : Addr)
  | emp

noncomputable abbrev Wd := List (List (Str × Str))
noncomputable abbrev HL := List (Addr × Addr)

/-- what a run may have done: S and the headers' lists may have turned, the frames in their slots; all else stands; the mutable addresses grow by new ones alone -/
structure Go (S : List Addr) (Hs : HL) (F M : List Addr) (h : Heap) (Hs' : HL) (M' : List Addr) (h' : Heap) : Prop where
  keep : ∀ a o, a ∉ S → a ∉ Hs.map (·.2) → a ∉ F → h.get? a = some o → h'.get? a = some o
  fr : ∀ a ∈ F, a ∉ S → a ∉ Hs.map (·.2) → ∀ o, h.get? a = some o → ∃ sl, h'.get? a = some { o with slots := sl }
  size : h.objs.size ≤ h'.objs.size
  ms : ∀ a ∈ M, a ∈ M'
  fresh : ∀ a ∈ M', a ∈ M ∨ h.objs.size ≤ a
  hs : ∃ ext, Hs' = Hs ++ ext ∧ ∀ p ∈ ext, h.objs.size ≤ p.2

theorem Go.refl (S Hs F M h) : Go S Hs F M h Hs M h :=
  ⟨fun _ _ _ _ _ e => e, fun _ _ _ _ o e => ⟨o.slots, e⟩, Nat.le_refl _, fun _ m => m, fun _ m => .inl m, [], by simp, fun _ hp => nomatch hp⟩
theorem Go.hlNew {S Hs F M h Hs' M' h'} (G : Go S Hs F M h Hs' M' h') {a : Addr} {o : Obj} (e : h.get? a = some o) (hn : a ∉ Hs.map (·.2)) : a ∉ Hs'.map (·.2) := by
  obtain ⟨ext, rfl, hx⟩ := G.hs
  intro hm
  rw [List.map_append] at hm
  rcases List.mem_append.mp hm with hm | hm
  · exact hn hm
  · obtain ⟨p, hp, rfl⟩ := List.mem_map.mp hm
    exact absurd (Heap.lt_size e) (Nat.not_lt.mpr (hx p hp))
theorem Go.hlNew' {S Hs F M h Hs' M' h'} (G : Go S Hs F M h Hs' M' h') {a : Addr} (e : a < h.objs.size) (hn : a ∉ Hs.map (·.2)) : a ∉ Hs'.map (·.2) := by
  obtain ⟨ext, rfl, hx⟩ := G.hs
  intro hm
  rw [List.map_append] at hm
  rcases List.mem_append.mp hm with hm | hm
  · exact hn hm
  · obtain ⟨p, hp, rfl⟩ := List.mem_map.mp hm
    exact absurd e (Nat.not_lt.mpr (hx p hp))
theorem Go.mNew {S Hs F M h Hs' M' h'} (G : Go S Hs F M h Hs' M' h') {a : Addr} {o : Obj} (e : h.get? a = some o) (hn : a ∉ M) : a ∉ M' := fun hm => by
  rcases G.fresh a hm with q | q
  · exact hn q
  · exact absurd (Heap.lt_size e) (Nat.not_lt.mpr q)
/-- an object away from what may have turned: as it was, but for its slots -/
theorem Go.data {S Hs F M h Hs' M' h'} (G : Go S Hs F M h Hs' M' h') {a : Addr} {o : Obj} (e : h.get? a = some o) (hs : a ∉ S) (hh : a ∉ Hs.map (·.2)) : ∃ sl, h'.get? a = some { o with slots := sl } := by
  by_cases hf : a ∈ F
  · exact G.fr a hf hs hh o e
  · exact ⟨o.slots, G.keep a o hs hh hf e⟩
theorem Go.trans {S S' Hs F M h Hs₁ M₁ h₁ Hs₂ M₂ h₂} (G : Go S Hs F M h Hs₁ M₁ h₁) (G' : Go S' Hs₁ F M₁ h₁ Hs₂ M₂ h₂) (hS : ∀ a ∈ S', a ∈ S ∨ h.objs.size ≤ a) : Go S Hs F M h Hs₂ M₂ h₂ := by
  have nS : ∀ a o, h.get? a = some o → a ∉ S → a ∉ S' := fun a o e n m => by
    rcases hS a m with q | q
    · exact n q
    · exact absurd (Heap.lt_size e) (Nat.not_lt.mpr q)
  refine ⟨fun a o ns hn hf e => G'.keep a o (nS a o e ns) (G.hlNew e hn) hf (G.keep a o ns hn hf e), fun a hf ns hn o e => ?_, Nat.le_trans G.size G'.size, fun a m => G'.ms a (G.ms a m), fun a m => ?_, ?_⟩
  · obtain ⟨sl, e₁⟩ := G.fr a hf ns hn o e
    obtain ⟨sl', e₂⟩ := G'.fr a hf (nS a o e ns) (G.hlNew e hn) _ e₁
    exact ⟨sl', e₂⟩
  · rcases G'.fresh a m with m | m
    · exact G.fresh a m
    · exact .inr (Nat.le_trans G.size m)
  · obtain ⟨ext, rfl, hx⟩ := G.hs
    obtain ⟨ext', rfl, hx'⟩ := G'.hs
    refine ⟨ext ++ ext', by rw [List.append_assoc], fun p hp => ?_⟩
    rcases List.mem_append.mp hp with hp | hp
    · exact hx p hp
    · exact Nat.le_trans G.size (hx' p hp)
theorem Go.trans' {S Hs F M h Hs₁ M₁ h₁ Hs₂ M₂ h₂} (G : Go S Hs F M h Hs₁ M₁ h₁) (G' : Go S Hs₁ F M₁ h₁ Hs₂ M₂ h₂) : Go S Hs F M h Hs₂ M₂ h₂ := G.trans G' fun _ m => .inl m
theorem Go.weaken {S S' Hs F M h Hs' M' h'} (G : Go S Hs F M h Hs' M' h') (hS : ∀ a ∈ S, a ∈ S') : Go S' Hs F M h Hs' M' h' :=
  ⟨fun a o ns hn hf e => G.keep a o (fun m => ns (hS a m)) hn hf e, fun a hf ns hn o e => G.fr a hf (fun m => ns (hS a m)) hn o e, G.size, G.ms, G.fresh, G.hs⟩
/-- all that stood stands -/
structure Kp (h h' : Heap) : Prop where
  get : ∀ a o, h.get? a = some o → h'.get? a = some o
  size : h.objs.size ≤ h'.objs.size
theorem Kp.refl (h : Heap) : Kp h h := ⟨fun _ _ e => e, Nat.le_refl _⟩
theorem Kp.trans {h h' h'' : Heap} (k : Kp h h') (k' : Kp h' h'') : Kp h h'' := ⟨fun a o e => k'.get a o (k.get a o e), Nat.le_trans k.size k'.size⟩
theorem Kp.push (h : Heap) (o : Obj) : Kp h (h.push o) := ⟨fun _ _ e => Heap.get?_push_of_some _ e, by rw [Heap.size_push]; omega⟩
theorem Go.kp {h h' : Heap} (k : Kp h h') (S Hs F M) : Go S Hs F M h Hs M h' :=
  ⟨fun a o _ _ _ e => k.get a o e, fun a _ _ _ o e => ⟨o.slots, k.get a o e⟩, k.size, fun _ m => m, fun _ m => .inl m, [], by simp, fun _ hp => nomatch hp⟩

/-- the part of a heap that nothing turns -/
noncomputable abbrev Hid (h : Heap) (M : List Addr) : Heap := hideAll h M
theorem Hid.get {h : Heap} {M : List Addr} {a : Addr} {o : Obj} (e : h.get? a = some o) (n : a ∉ M) : (Hid h M).get? a = some o := hideAll_get M e n
theorem Hid.of {h : Heap} {M : List Addr} {a : Addr} {o : Obj} (e : (Hid h M).get? a = some o) : h.get? a = some o := of_hideAll M e
theorem Hid.off {h : Heap} {M : List Addr} {a : Addr} {o : Obj} (e : (Hid h M).get? a = some o) : a ∉ M := fun m => by
  rw [hideAll_none M m] at e; cases e

/-- the headers' lists and the frames lie among the mutable addresses -/
structure In2 (Hs : HL) (F M : List Addr) : Prop where
  hl : ∀ p ∈ Hs, p.2 ∈ M
  fr : ∀ a ∈ F, a ∈ M
theorem In2.go {S Hs F M h Hs' M' h'} (I : In2 Hs F M) (G : Go S Hs F M h Hs' M' h') (hm : ∀ p ∈ Hs', p ∈ Hs ∨ p.2 ∈ M') : In2 Hs' F M' :=
  ⟨fun p hp => (hm p hp).elim (fun q => G.ms _ (I.hl p q)) id, fun a ha => G.ms a (I.fr a ha)⟩
theorem Go.hid {S Hs F M h Hs' M' h'} (G : Go S Hs F M h Hs' M' h') (I : In2 Hs F M) (hS : ∀ a ∈ S, a ∈ M) : ∀ a o, (Hid h M).get? a = some o → (Hid h' M').get? a = some o := fun a o e => by
  have n := Hid.off e
  have e' := Hid.of e
  exact Hid.get (G.keep a o (fun hs => n (hS a hs)) (fun hh => by obtain ⟨p, hp, rfl⟩ := List.mem_map.mp hh; exact n (I.hl p hp)) (fun hf => n (I.fr a hf)) e') (G.mNew e' n)
theorem Hid.kp {h h' : Heap} {M : List Addr} (k : Kp h h') : ∀ a o, (Hid h M).get? a = some o → (Hid h' M).get? a = some o := fun _ _ e => Hid.get (k.get _ _ (Hid.of e)) (Hid.off e)

-- values
mutual
inductive Rv (P : Params) (g : Heap) (Hs : HL) : Value → PV → Prop
  | dat {v d as} : Reads g v d as → Rv P g Hs v (.dat d)
  | hdr {k a l} : Hs[k]? = some (a, l) → Rv P g Hs (.ref a) (.hdr k)
  | dct {a es n kvs} : g.get? a = some ⟨.type "dict", none, .dict es n, #[]⟩ → RvE P g Hs es.toList kvs → Rv P g Hs (.ref a) (.dct kvs)
  | two {a vs n v₁ v₂ p₁ p₂} : g.get? a = some ⟨.type "tuple", none, .seq vs n, #[]⟩ → vs.toList = [v₁, v₂] → Rv P g Hs v₁ p₁ → Rv P g Hs v₂ p₂ → Rv P g Hs (.ref a) (.two p₁ p₂)
  | inst {a dx t n v d as} : g.get? a = some (instObj 189 dx) → g.get? dx = some (dictOf [⟨PyData.keyHash P "_headers", .str "_headers" t, v⟩] n) → Reads g v d as → Rv P g Hs (.ref a) (.inst d)
  | self {a dx t n l} : g.get? a = some (instObj 189 dx) → g.get? dx = some (dictOf [⟨PyData.keyHash P "_headers", .str "_headers" t, .ref l⟩] n) → Rv P g Hs (.ref a) (.self l)
  | obj {a} : Rv P g Hs (.ref a) (.obj a)
  | emp {a n} : g.get? a = some ⟨.type "dict", none, .dict #[] n, #[]⟩ → (a == sysModules) = false → Rv P g Hs (.ref a) .emp
inductive RvE (P : Params) (g : Heap) (Hs : HL) : List DictEntry → List (Str × PV) → Prop
  | nil : RvE P g Hs [] []
  | cons {e x t pv r kvs} : e.key = .str x t → e.hash = PyData.keyHash P x → Rv P g Hs e.val pv → RvE P g Hs r kvs → RvE P g Hs (e :: r) ((x, pv) :: kvs)
end
theorem Rv.mono {P : Params} {g g' : Heap} {Hs Hs' : HL} (hg : ∀ a o, g.get? a = some o → g'.get? a = some o) (hh : ∀ (k : Nat) (p : Addr × Addr), Hs[k]? = some p → Hs'[k]? = some p) {v : Value} {pv : PV} (r : Rv P g Hs v pv) : Rv P g' Hs' v pv :=
  @Rv.rec P g Hs (fun v pv _ => Rv P g' Hs' v pv) (fun es kvs _ => RvE P g' Hs' es kvs) (fun r => .dat (Reads.keeps hg r)) (fun e => .hdr (hh _ _ e)) (fun e _ r => .dct (hg _ _ e) r) (fun e q _ _ r₁ r₂ => .two (hg _ _ e) q r₁ r₂)
    (fun e q r => .inst (hg _ _ e) (hg _ _ q) (Reads.keeps hg r)) (fun e q => .self (hg _ _ e) (hg _ _ q)) .obj (fun e q => .emp (hg _ _ e) q) .nil (fun k e _ _ r rs => .cons k e r rs) v pv r
/-- what a value is that stands for pv -/
noncomputable def RvShape (P : Params) (g : Heap) (Hs : HL) (v : Value) : PV → Prop
  | .dat d => ∃ as, Reads g v d as
  | .hdr k => ∃ a l, v = .ref a ∧ Hs[k]? = some (a, l)
  | .dct kvs => ∃ a es n, v = .ref a ∧ g.get? a = some ⟨.type "dict", none, .dict es n, #[]⟩ ∧ RvE P g Hs es.toList kvs
  | .two p₁ p₂ => ∃ a vs n v₁ v₂, v = .ref a ∧ g.get? a = some ⟨.type "tuple", none, .seq vs n, #[]⟩ ∧ vs.toList = [v₁, v₂] ∧ Rv P g Hs v₁ p₁ ∧ Rv P g Hs v₂ p₂
  | .mut _ => False
  | .inst d => ∃ a dx t n u as, v = .ref a ∧ g.get? a = some (instObj 189 dx) ∧ g.get? dx = some (dictOf [⟨PyData.keyHash P "_headers", .str "_headers" t, u⟩] n) ∧ Reads g u d as
  | .self l => ∃ a dx t n, v = .ref a ∧ g.get? a = some (instObj 189 dx) ∧ g.get? dx = some (dictOf [⟨PyData.keyHash P "_headers", .str "_headers" t, .ref l⟩] n)
  | .obj a => v = .ref a
  | .emp => ∃ a n, v = .ref a ∧ g.get? a = some ⟨.type "dict", none, .dict #[] n, #[]⟩ ∧ (a == sysModules) = false
theorem Rv.shape {P : Params} {g : Heap} {Hs : HL} {v : Value} {pv : PV} (r : Rv P g Hs v pv) : RvShape P g Hs v pv :=
  Rv.casesOn (motive_1 := fun v pv _ => RvShape P g Hs v pv) r (fun r => ⟨_, r⟩) (fun e => ⟨_, _, rfl, e⟩) (fun e r => ⟨_, _, _, rfl, e, r⟩) (fun e q r₁ r₂ => ⟨_, _, _, _, _, rfl, e, q, r₁, r₂⟩)
    (fun e q r => ⟨_, _, _, _, _, _, rfl, e, q, r⟩) (fun e q => ⟨_, _, _, _, rfl, e, q⟩) rfl (fun e q => ⟨_, _, rfl, e, q⟩)
noncomputable def RvEShape (P : Params) (g : Heap) (Hs : HL) (es : List DictEntry) : List (Str × PV) → Prop
  | [] => es = []
  | (x, pv) :: kvs => ∃ e es' t, es = e :: es' ∧ e.key = .str x t ∧ e.hash = PyData.keyHash P x ∧ Rv P g Hs e.val pv ∧ RvE P g Hs es' kvs
theorem RvE.cons_inv {P : Params} {g : Heap} {Hs : HL} {es : List DictEntry} {kvs : List (Str × PV)} (r : RvE P g Hs es kvs) : RvEShape P g Hs es kvs :=
  RvE.casesOn (motive_2 := fun es kvs _ => RvEShape P g Hs es kvs) r rfl (fun h1 h2 r rs => ⟨_, _, _, rfl, h1, h2, r, rs⟩)
theorem RvE.nil_inv {P : Params} {g : Heap} {Hs : HL} {es : List DictEntry} (r : RvE P g Hs es []) : es = [] := r.cons_inv
theorem Go.hsGet {S Hs F M h Hs' M' h'} (G : Go S Hs F M h Hs' M' h') : ∀ (k : Nat) (p : Addr × Addr), Hs[k]? = some p → Hs'[k]? = some p := fun k p e => by
  obtain ⟨ext, rfl, _⟩ := G.hs
  have hl := (List.getElem?_eq_some_iff.mp e).1
  rw [List.getElem?_append_left hl]; exact e
theorem Rv.go {P : Params} {S Hs F M h Hs' M' h'} (G : Go S Hs F M h Hs' M' h') (I : In2 Hs F M) (hS : ∀ a ∈ S, a ∈ M) {v pv} (r : Rv P (Hid h M) Hs v pv) : Rv P (Hid h' M') Hs' v pv := r.mono (G.hid I hS) G.hsGet

/-- a value, or a list that the function itself turns (its address among ML) -/
noncomputable def Vr (P : Params) (h : Heap) (M : List Addr) (Hs : HL) (ML : List Addr) (v : Value) (pv : PV) : Prop :=
  Rv P (Hid h M) Hs v pv ∨ ∃ a vs n xs as, pv = .mut xs ∧ v = .ref a ∧ a ∈ ML ∧ h.get? a = some ⟨.type "list", none, .seq vs n, #[]⟩ ∧ ReadsAll (Hid h M) vs.toList xs as
noncomputable def VrShape (P : Params) (h : Heap) (M : List Addr) (Hs : HL) (ML : List Addr) (v : Value) : PV → Prop
  | .mut xs => ∃ a vs n as, v = .ref a ∧ a ∈ ML ∧ h.get? a = some ⟨.type "list", none, .seq vs n, #[]⟩ ∧ ReadsAll (Hid h M) vs.toList xs as
  | pv => RvShape P (Hid h M) Hs v pv
theorem Vr.shape {P : Params} {h : Heap} {M : List Addr} {Hs : HL} {ML : List Addr} {v : Value} {pv : PV} (r : Vr P h M Hs ML v pv) : VrShape P h M Hs ML v pv := by
  rcases r with r | ⟨a, vs, n, xs, as, rfl, h1, h2, h3, h4⟩
  · have r := r.shape
    cases pv with
    | «mut» => exact r.elim
    | _ => exact r
  · exact ⟨a, vs, n, as, h1, h2, h3, h4⟩
structure MLok (Hs : HL) (F M : List Addr) (h : Heap) (ML : List Addr) : Prop where
  m : ∀ a ∈ ML, a ∈ M
  hl : ∀ a ∈ ML, a ∉ Hs.map (·.2)
  fr : ∀ a ∈ ML, a ∉ F
  there : ∀ a ∈ ML, a < h.objs.size
theorem MLok.go {S Hs F M h Hs' M' h'} {ML : List Addr} (K : MLok Hs F M h ML) (G : Go S Hs F M h Hs' M' h') : MLok Hs' F M' h' ML :=
  ⟨fun a ha => G.ms a (K.m a ha), fun a ha => G.hlNew' (K.there a ha) (K.hl a ha), K.fr, fun a ha => Nat.lt_of_lt_of_le (K.there a ha) G.size⟩
theorem Vr.go {P : Params} {S Hs F M h Hs' M' h'} {ML : List Addr} (G : Go S Hs F M h Hs' M' h') (I : In2 Hs F M) (K : MLok Hs F M h ML) (hS : ∀ a ∈ S, a ∈ M) (hL : ∀ a ∈ ML, a ∉ S) {v pv} (r : Vr P h M Hs ML v pv) : Vr P h' M' Hs' ML v pv := by
  rcases r with r | ⟨a, vs, n, xs, as, rfl, rfl, ha, e, rs⟩
  · exact .inl (r.go G I hS)
  · exact .inr ⟨a, vs, n, xs, as, rfl, rfl, ha, G.keep a _ (hL a ha) (K.hl a ha) (K.fr a ha) e, ReadsAll.keeps (G.hid I hS) rs⟩
noncomputable abbrev Vars := List (Str × PV)

noncomputable def PV.dat? : PV → Option PyData
  | .dat d => some d
  | _ => none
noncomputable def dats : List PV → Option (List PyData)
  | [] => some []
  | .dat d :: r => (dats r).map (d :: ·)
  | _ :: _ => none

noncomputable def constV : Const → Option PV
  | .none => some (.dat .none)
  | .bool b => some (.dat (.bool b))
  | .int i => some (.dat (.int i))
  | .str s => some (.dat (.str s))
  | _ => none

noncomputable def kindIn (sc : Scope) (x : Str) : Option NameKind := sc.names.lookup x
noncomputable def ownKind (sc : Scope) (x : Str) : Bool := match kindIn sc x with
  | some .local | some .cell => true
  | _ => false
theorem ownKind_inv {sc : Scope} {x : Str} (h : ownKind sc x = true) : kindIn sc x = some .local ∨ kindIn sc x = some .cell := by
  unfold ownKind at h
  cases q : kindIn sc x with
  | none => rw [q] at h; exact ff h
  | some k =>
    rw [q] at h
    cases k with
    | «local» => exact .inl rfl
    | cell => exact .inr rfl
    | _ => exact ff h
noncomputable def heldKind (sc : Scope) (x : Str) : Bool := match kindIn sc x with
  | some .local | some .cell | some .free => true
  | _ => false

noncomputable def strLt (x y : Str) : Bool := decide (x.cps.toList < y.cps.toList)
noncomputable def iD : PyData → Option Int
  | .int i => some i
  | _ => none
noncomputable def sD : PyData → Option Str
  | .str x => some x
  | _ => none
noncomputable def lD : PyData → Option (List PyData)
  | .list xs => some xs
  | _ => none
noncomputable def tD : PyData → Option (List PyData)
  | .tuple xs => some xs
  | _ => none
/-- a list of one str -/
noncomputable def oneD (d : PyData) : Option Str := match lD d with
  | some [d] => sD d
  | _ => none
noncomputable def alt2 {α β γ : Type} (x : Option α) (y : Option β) (f : α → β → Option γ) (z : Option γ) : Option γ := match x, y with
  | some a, some b => f a b
  | _, _ => z
theorem iD_inv {d : PyData} {i : Int} (h : iD d = some i) : d = .int i := by
  cases d with
  | int => exact congrArg _ (Option.some.inj h)
  | _ => exact none_ne h
theorem sD_inv {d : PyData} {i : Str} (h : sD d = some i) : d = .str i := by
  cases d with
  | str => exact congrArg _ (Option.some.inj h)
  | _ => exact none_ne h
theorem lD_inv {d : PyData} {i : List PyData} (h : lD d = some i) : d = .list i := by
  cases d with
  | list => exact congrArg _ (Option.some.inj h)
  | _ => exact none_ne h
theorem tD_inv {d : PyData} {i : List PyData} (h : tD d = some i) : d = .tuple i := by
  cases d with
  | tuple => exact congrArg _ (Option.some.inj h)
  | _ => exact none_ne h
theorem oneD_inv {d : PyData} {x : Str} (h : oneD d = some x) : d = .list [.str x] := by
  unfold oneD at h
  cases q : lD d with
  | none => rw [q] at h; cases h
  | some l =>
    rw [q] at h
    cases lD_inv q
    match l, h with
    | [], h => cases h
    | [d], h => cases sD_inv h; rfl
    | _ :: _ :: _, h => cases h
theorem dat_inv {p : PV} {d : PyData} (h : p.dat? = some d) : p = .dat d := by
  cases p with
  | dat => exact congrArg _ (Option.some.inj h)
  | _ => exact none_ne h
theorem alt2_inv {α β γ : Type} {x : Option α} {y : Option β} {f : α → β → Option γ} {z : Option γ} {r : γ} (h : alt2 x y f z = some r) : (∃ a b, x = some a ∧ y = some b ∧ f a b = some r) ∨ z = some r := by
  cases x with
  | none => exact .inr h
  | some a =>
    cases y with
    | none => exact .inr h
    | some b => exact .inl ⟨a, b, rfl, rfl, h⟩
theorem both_inv {α β γ : Type} {x : Option α} {y : Option β} {f : α → β → Option γ} {r : γ} (h : alt2 x y f none = some r) : ∃ a b, x = some a ∧ y = some b ∧ f a b = some r := (alt2_inv h).resolve_right fun h => nomatch h
theorem ite_some {α : Type} {c : Prop} [Decidable c] {x r : α} (h : (if c then some x else none) = some r) : c ∧ x = r := by
  by_cases q : c
  · rw [if_pos q] at h; exact ⟨q, Option.some.inj h⟩
  · rw [if_neg q] at h; exact none_ne h
theorem ite_inv {α : Type} {c : Prop} [Decidable c] {x : Option α} {r : α} (h : (if c then x else none) = some r) : c ∧ x = some r := by
  by_cases q : c
  · rw [if_pos q] at h; exact ⟨q, h⟩
  · rw [if_neg q] at h; exact none_ne h
theorem alt_inv {α β γ δ ε : Type} {p : δ → Option α} {q : ε → Option β} {m1 : α → δ} {m2 : β → ε} {a : δ} {b : ε} {f : α → β → Option γ} {z : Option γ} {r : γ} (hp : ∀ {d x}, p d = some x → d = m1 x) (hq : ∀ {d x}, q d = some x → d = m2 x) (P : δ → ε → Prop)
    (k : ∀ x y, f x y = some r → P (m1 x) (m2 y)) (hz : z = some r → P a b) (h : alt2 (p a) (q b) f z = some r) : P a b := by
  rcases alt2_inv h with ⟨x, y, h1, h2, h⟩ | h
  · rw [hp h1, hq h2]; exact k x y h
  · exact hz h
theorem and2 {a b : Bool} (h : (a && b) = true) : a = true ∧ b = true := (Bool.and_eq_true a b).mp h
theorem and3 {a b c : Bool} (h : (a && b && c) = true) : a = true ∧ b = true ∧ c = true := ⟨(and2 (and2 h).1).1, (and2 (and2 h).1).2, (and2 h).2⟩
/-- «a < b» of two ints, two strs, or two lists of strs, one each -/
noncomputable def ltD (a b : PyData) : Option Bool :=
  alt2 (iD a) (iD b) (fun a b => some (decide (a < b))) <| alt2 (sD a) (sD b) (fun a b => some (strLt a b)) <| alt2 (oneD a) (oneD b) (fun a b => some (if a == b then false else strLt a b)) none
inductive LtR : PyData → PyData → Bool → Prop
  | int {a b} : LtR (.int a) (.int b) (decide (a < b))
  | str {a b} : LtR (.str a) (.str b) (strLt a b)
  | one {a b} : LtR (.list [.str a]) (.list [.str b]) (if a == b then false else strLt a b)
theorem ltR {a b : PyData} {r : Bool} (h : ltD a b = some r) : LtR a b r :=
  alt_inv iD_inv iD_inv (fun a b => LtR a b r) (fun _ _ h => by exact Option.some.inj h ▸ .int) (alt_inv sD_inv sD_inv (fun a b => LtR a b r) (fun _ _ h => by exact Option.some.inj h ▸ .str) (alt_inv (m1 := fun x => .list [.str x]) (m2 := fun x => .list [.str x]) oneD_inv oneD_inv (fun a b => LtR a b r) (fun _ _ h => by exact Option.some.inj h ▸ .one) none_ne)) h

noncomputable def small : Nat := 1000

noncomputable def binD : Operator → PyData → PyData → Option PV
  | .Add, a, b => alt2 (iD a) (iD b) (fun a b => some (.dat (.int (a + b)))) <| alt2 (sD a) (sD b) (fun x y => if x.length ≤ small && y.length ≤ small then some (.dat (.str (x ++ y))) else none) <|
      alt2 (lD a) (lD b) (fun xs ys => if xs.length ≤ small && ys.length ≤ small then some (.dat (.list (xs ++ ys))) else none) none
  | .Sub, a, b => alt2 (iD a) (iD b) (fun a b => some (.dat (.int (a - b)))) none
  | .Mult, a, b => alt2 (lD a) (iD b) (fun xs b => if xs.length ≤ small && decide (0 ≤ b) && decide (b ≤ small) then some (.dat (.list (List.replicate b.toNat xs).flatten)) else none) none
  | .Mod, a, b => alt2 (iD a) (iD b) (fun a b => if b ≠ 0 then some (.dat (.int (a.fmod b))) else none) none
  | .FloorDiv, a, b => alt2 (iD a) (iD b) (fun a b => if b ≠ 0 && decide (b.natAbs ≤ 2 ^ 20) then some (.dat (.int (a.fdiv b))) else none) none
  | .BitAnd, a, b => alt2 (iD a) (iD b) (fun a b => some (.dat (.int (Builtin.bitAnd a b)))) none
  | .Pow, a, b => alt2 (iD a) (iD b) (fun a b => if decide (a = 2) && decide (0 ≤ b) && decide (b ≤ 64) then some (.dat (.int (a ^ b.toNat))) else none) none
  | _, _, _ => none
noncomputable def binopV (op : Operator) (a b : PV) : Option PV := alt2 a.dat? b.dat? (binD op) none
inductive BinR : Operator → PV → PV → PV → Prop
  | addI {a b} : BinR .Add (.dat (.int a)) (.dat (.int b)) (.dat (.int (a + b)))
  | addS {x y : Str} : x.length ≤ small → y.length ≤ small → BinR .Add (.dat (.str x)) (.dat (.str y)) (.dat (.str (x ++ y)))
  | addL {xs ys} : xs.length ≤ small → ys.length ≤ small → BinR .Add (.dat (.list xs)) (.dat (.list ys)) (.dat (.list (xs ++ ys)))
  | sub {a b} : BinR .Sub (.dat (.int a)) (.dat (.int b)) (.dat (.int (a - b)))
  | mul {xs} {b : Int} : xs.length ≤ small → 0 ≤ b → b ≤ small → BinR .Mult (.dat (.list xs)) (.dat (.int b)) (.dat (.list (List.replicate b.toNat xs).flatten))
  | mod {a b : Int} : b ≠ 0 → BinR .Mod (.dat (.int a)) (.dat (.int b)) (.dat (.int (a.fmod b)))
  | div {a b : Int} : b ≠ 0 → b.natAbs ≤ 2 ^ 20 → BinR .FloorDiv (.dat (.int a)) (.dat (.int b)) (.dat (.int (a.fdiv b)))
  | band {a b} : BinR .BitAnd (.dat (.int a)) (.dat (.int b)) (.dat (.int (Builtin.bitAnd a b)))
  | pow {b : Int} : 0 ≤ b → b ≤ 64 → BinR .Pow (.dat (.int 2)) (.dat (.int b)) (.dat (.int (2 ^ b.toNat)))
theorem binI {a b : PyData} {f : Int → Int → Option PV} {r : PV} {op : Operator} (k : ∀ x y, f x y = some r → BinR op (.dat (.int x)) (.dat (.int y)) r) (h : alt2 (iD a) (iD b) f none = some r) : BinR op (.dat a) (.dat b) r :=
  alt_inv iD_inv iD_inv (fun a b => BinR op (.dat a) (.dat b) r) k none_ne h
theorem binD_R {a b : PyData} {r : PV} : ∀ {op : Operator}, binD op a b = some r → BinR op (.dat a) (.dat b) r := fun {op} h => by
  cases op with
  | Add =>
    exact alt_inv iD_inv iD_inv (fun a b => BinR .Add (.dat a) (.dat b) r) (fun _ _ h => by exact Option.some.inj h ▸ .addI) (alt_inv sD_inv sD_inv (fun a b => BinR .Add (.dat a) (.dat b) r) (fun x y h => by have q := ite_some h; exact q.2 ▸ .addS (of_decide_eq_true (and2 q.1).1) (of_decide_eq_true (and2 q.1).2))
      (alt_inv lD_inv lD_inv (fun a b => BinR .Add (.dat a) (.dat b) r) (fun x y h => by have q := ite_some h; exact q.2 ▸ .addL (of_decide_eq_true (and2 q.1).1) (of_decide_eq_true (and2 q.1).2)) none_ne)) h
  | Sub => exact binI (fun x y h => by exact Option.some.inj h ▸ .sub) h
  | Mult => exact alt_inv lD_inv iD_inv (fun a b => BinR .Mult (.dat a) (.dat b) r) (fun x y h => by have q := ite_some h; exact q.2 ▸ .mul (of_decide_eq_true (and3 q.1).1) (of_decide_eq_true (and3 q.1).2.1) (of_decide_eq_true (and3 q.1).2.2)) none_ne h
  | Mod => exact binI (fun x y h => by have q := ite_some h; exact q.2 ▸ .mod q.1) h
  | FloorDiv => exact binI (fun x y h => by have q := ite_some h; exact q.2 ▸ .div (of_decide_eq_true (and2 q.1).1) (of_decide_eq_true (and2 q.1).2)) h
  | BitAnd => exact binI (fun x y h => by exact Option.some.inj h ▸ .band) h
  | Pow =>
    refine binI (fun x y h => ?_) h
    obtain ⟨q, rfl⟩ := ite_some h
    cases of_decide_eq_true (and3 q).1
    exact .pow (of_decide_eq_true (and3 q).2.1) (of_decide_eq_true (and3 q).2.2)
  | _ => exact none_ne h
theorem binR {op : Operator} {a b r : PV} (h : binopV op a b = some r) : BinR op a b r := alt_inv dat_inv dat_inv (fun a b => BinR op a b r) (fun _ _ h => binD_R h) none_ne h

noncomputable def eqD (a b : PyData) : Option Bool := if SeqAt.shaped a && SeqAt.shaped b then some (PyData.eqv a b) else none
noncomputable def inD (a : PyData) (xs : List PyData) : Option Bool := if SeqAt.shaped a && xs.all SeqAt.shaped && decide (xs.length ≤ small) then some (xs.any fun x => PyData.eqv x a) else none

noncomputable def itemsV : PV → Option (List PyData)
  | .dat (.list xs) => some xs
  | .dat (.tuple xs) => some xs
  | .dat (.str x) => if x.cps.all (· < 128) then some (x.cps.toList.map fun c => .str ⟨#[c]⟩) else none
  | _ => none
noncomputable def PV.mut? : PV → Option (List PyData)
  | .mut xs => some xs
  | _ => none
theorem mut_inv {p : PV} {d} (h : p.mut? = some d) : p = .mut d := by
  cases p with
  | «mut» => exact congrArg _ (Option.some.inj h)
  | _ => exact none_ne h
noncomputable def listV (p : PV) : Option (List PyData) := match p.dat? with
  | some d => lD d
  | none => p.mut?
theorem listV_ind {p : PV} {xs : List PyData} (P : PV → Prop) (h1 : P (.dat (.list xs))) (h2 : P (.mut xs)) (h : listV p = some xs) : P p := by
  unfold listV at h
  cases q : p.dat? with
  | none => rw [q] at h; exact mut_inv h ▸ h2
  | some d => rw [q] at h; exact dat_inv q ▸ lD_inv h ▸ h1

noncomputable def cmpV (op : CmpOp) (a b : PV) : Option Bool := match op with
  | .Eq => alt2 a.dat? b.dat? eqD none
  | .NotEq => alt2 a.dat? b.dat? (fun a b => (eqD a b).map (!·)) none
  | .Lt => alt2 a.dat? b.dat? ltD none
  | .Gt => alt2 a.dat? b.dat? (fun a b => ltD b a) none
  | .In => alt2 a.dat? (listV b) inD none
  | .NotIn => alt2 a.dat? (listV b) (fun a xs => (inD a xs).map (!·)) none
  | _ => none

noncomputable def insD (lt : PyData → PyData → Bool) (x : PyData) : List PyData → List PyData
  | [] => [x]
  | y :: r => if lt y x then y :: insD lt x r else x :: y :: r
noncomputable def isStrD : PyData → Bool
  | .str _ => true
  | _ => false
noncomputable def isPairD (d : PyData) : Bool := match tD d with
  | some [a, b] => (sD a).isSome && (sD b).isSome
  | _ => false
noncomputable def ltPair : PyData → PyData → Bool
  | .tuple [.str a, .str b], .tuple [.str c, .str d] => if a == c then strLt b d else strLt a c
  | _, _ => false
noncomputable def ltStr : PyData → PyData → Bool
  | .str a, .str b => strLt a b
  | _, _ => false
noncomputable def firstD : PyData → Str
  | .tuple [.str a, .str _] => a
  | _ => ⟨#[]⟩
noncomputable def sortD (lt : PyData → PyData → Bool) (xs : List PyData) : List PyData := xs.foldr (insD lt) []
noncomputable def sortV (xs : List PyData) : Option (List PyData) :=
  if xs.length ≤ 60 && xs.all isStrD then some (sortD ltStr xs)
  else if decide (xs.length = 4) && xs.all isPairD && decide (xs.map firstD).Nodup then some (sortD ltPair xs)
  else none

noncomputable def intsD : List PyData → Option (List Int)
  | [] => some []
  | .int i :: r => (intsD r).map (i :: ·)
  | _ :: _ => none
noncomputable def maxI : List Int → Option Int
  | [] => none
  | a :: r => some (r.foldl (fun m x => if x > m then x else m) a)

/-- the texts that the headers here bear -/
noncomputable def hTexts : List Str := ["a", "b", "c", "d", "e", "A", "B", "C", "D", "E", "0", "1", "aa", "bb", "cc", "dd", "AA", "BB", "CC", "DD"].map Str.ofString
noncomputable def okT (x : Str) : Bool := hTexts.contains x
noncomputable def lowT (x : Str) : Str := Txt.lower x
noncomputable def pairD (p : Str × Str) : PyData := .tuple [.str p.1, .str p.2]
noncomputable def hGet (items : List (Str × Str)) (x : Str) : PyData := match items.find? (fun p => lowT p.1 == lowT x) with
  | some p => .str p.2
  | none => .none
noncomputable def hAll (items : List (Str × Str)) (x : Str) : List PyData := (items.filter (fun p => lowT p.1 == lowT x)).map fun p => .str p.2
noncomputable def okI (items : List (Str × Str)) : Bool := decide (items.length ≤ 60) && items.all fun p => okT p.1 && okT p.2
noncomputable def hSet (items : List (Str × Str)) (x y : Str) : List (Str × Str) := items.filter (fun p => lowT p.1 != lowT x) ++ [(x, y)]

/-- what sorted_list_difference tells -/
noncomputable def sld {α : Type} (lt eq : α → α → Bool) : Nat → List α → List α → List α × List α
  | 0, a, b => (a, b)
  | _ + 1, [], b => ([], b)
  | _ + 1, a, [] => (a, [])
  | n + 1, e :: a, f :: b =>
    if lt e f then ((e :: (sld lt eq n (a.dropWhile (eq · e)) (f :: b)).1), (sld lt eq n (a.dropWhile (eq · e)) (f :: b)).2)
    else if lt f e then ((sld lt eq n (e :: a) (b.dropWhile (eq · f))).1, f :: (sld lt eq n (e :: a) (b.dropWhile (eq · f))).2)
    else sld lt eq n (a.dropWhile (eq · e)) (b.dropWhile (eq · f))
noncomputable def keyStr : PyData → Option Str
  | .str x => some x
  | .list [.str x] => some x
  | _ => none
noncomputable def isOneD : PyData → Bool
  | .list [.str _] => true
  | _ => false
noncomputable def ltK (a b : PyData) : Bool := match keyStr a, keyStr b with
  | some x, some y => strLt x y
  | _, _ => false
noncomputable def okRow (xs : List PyData) : Bool := decide (xs.length ≤ 60) && xs.all SeqAt.shaped
noncomputable def sldV (a b : List PyData) : Option PyData :=
  if okRow a && okRow b && (a.all isStrD && b.all isStrD || a.all isOneD && b.all isOneD) then
    some (.tuple [.list (sld ltK PyData.eqv (a.length + b.length) a b).1, .list (sld ltK PyData.eqv (a.length + b.length) a b).2])
  else none

inductive Fl where
  | next
  | ret (v : PV)

noncomputable def retV : Fl → PV
  | .ret (.mut xs) => .dat (.list xs)
  | .ret v => v
  | .next => .dat .none

structure FnRec where
  addr : Addr
  params : List Str
  body : List Stmt
  scope : Scope

/-- the text's own def under a name -/
noncomputable def defIn : List Stmt → Str → Option (List Str × List Stmt × Scope)
  | [], _ => none
  | .FunctionDef n a b _ _ _ sc _ _ _ :: r, x => if n == x then some (a.args.map (·.arg), b, sc) else defIn r x
  | _ :: r, x => defIn r x

noncomputable def lawDefs : List (Str × Addr) := [("_law_lay", 198), ("_law_lacks", 203), ("_law_told", 210), ("_law_pull", 215), ("_law_write", 222), ("_law_judge", 227), ("_law_ring", 234), ("_law_sure", 239), ("_law_all", 244), ("_law_anew", 251)].map fun p => (Str.ofString p.1, p.2)
noncomputable def builtinDefs : List Str := ["range", "len", "sum", "sorted", "max", "list"].map Str.ofString
noncomputable def globNames : List Str := lawDefs.map (·.1) ++ builtinDefs ++ ["sorted_list_difference", "Headers"].map Str.ofString

noncomputable def notMut : PV → Bool
  | .mut _ => false
  | _ => true
/-- a target takes a value -/
inductive BindT (sc : Scope) : Expr → PV → Vars → Vars → Prop
  | name {x p v vs} : ownKind sc x = true → notMut v = true → BindT sc (.Name x p) v vs ((x, v) :: vs)
  | pair {x y p q k z a b vs} : ownKind sc x = true → ownKind sc y = true → BindT sc (.Tuple [.Name x p, .Name y q] k z) (.dat (.tuple [a, b])) vs ((y, .dat b) :: (x, .dat a) :: vs)
  | two {x y p q k z a b vs} : ownKind sc x = true → ownKind sc y = true → BindT sc (.Tuple [.Name x p, .Name y q] k z) (.two a b) vs ((y, b) :: (x, a) :: vs)
/-- a comprehension's target: names that were not there -/
inductive BindF (sc : Scope) : Expr → PV → Vars → Vars → Prop
  | name {x p v vs} : ownKind sc x = true → notMut v = true → vs.lookup x = none → BindF sc (.Name x p) v vs ((x, v) :: vs)
  | pair {x y p q k z a b vs} : ownKind sc x = true → ownKind sc y = true → vs.lookup x = none → vs.lookup y = none → BindF sc (.Tuple [.Name x p, .Name y q] k z) (.dat (.tuple [a, b])) vs ((y, .dat b) :: (x, .dat a) :: vs)
noncomputable def strItem (x : Str) (i : Int) : Option Str := if decide (0 ≤ i) && decide (i < x.cps.size) && decide (i < 100) then (x.cps[i.toNat]?).map fun c => ⟨#[c]⟩ else none
noncomputable def idxD (xs : List PyData) (i : Int) : Option PyData :=
  if 0 ≤ i then xs[i.toNat]? else if -(xs.length : Int) ≤ i then xs[(i + xs.length).toNat]? else none
noncomputable def PV.dct? : PV → Option (List (Str × PV))
  | .dct kvs => some kvs
  | _ => none
noncomputable def PV.hdr? : PV → Option Nat
  | .hdr k => some k
  | _ => none
theorem dct_inv {p : PV} {d} (h : p.dct? = some d) : p = .dct d := by
  cases p with
  | dct => exact congrArg _ (Option.some.inj h)
  | _ => exact none_ne h
theorem hdr?_inv {p : PV} {d} (h : p.hdr? = some d) : p = .hdr d := by
  cases p with
  | hdr => exact congrArg _ (Option.some.inj h)
  | _ => exact none_ne h
noncomputable def subD (a b : PyData) : Option PV :=
  alt2 (lD a) (iD b) (fun xs i => if xs.length ≤ small then (idxD xs i).map .dat else none) <| alt2 (tD a) (iD b) (fun xs i => if xs.length ≤ small then (idxD xs i).map .dat else none) <|
    alt2 (sD a) (iD b) (fun x i => (strItem x i).map fun y => .dat (.str y)) none
noncomputable def subV (a b : PV) : Option PV := alt2 a.dat? b.dat? subD <| alt2 a.dct? b.dat? (fun kvs d => (sD d).bind fun x => kvs.lookup x) none
inductive SubR : PV → PV → PV → Prop
  | list {xs i d} : xs.length ≤ small → idxD xs i = some d → SubR (.dat (.list xs)) (.dat (.int i)) (.dat d)
  | tuple {xs i d} : xs.length ≤ small → idxD xs i = some d → SubR (.dat (.tuple xs)) (.dat (.int i)) (.dat d)
  | str {x i y} : strItem x i = some y → SubR (.dat (.str x)) (.dat (.int i)) (.dat (.str y))
  | dct {kvs x v} : kvs.lookup x = some v → SubR (.dct kvs) (.dat (.str x)) v
theorem subD_R {a b : PyData} {r : PV} (h : subD a b = some r) : SubR (.dat a) (.dat b) r :=
  alt_inv lD_inv iD_inv (fun a b => SubR (.dat a) (.dat b) r) (fun _ _ h => by obtain ⟨q, m⟩ := ite_inv h; obtain ⟨d, e, rfl⟩ := Option.map_eq_some_iff.mp m; exact .list q e)
    (alt_inv tD_inv iD_inv (fun a b => SubR (.dat a) (.dat b) r) (fun _ _ h => by obtain ⟨q, m⟩ := ite_inv h; obtain ⟨d, e, rfl⟩ := Option.map_eq_some_iff.mp m; exact .tuple q e)
      (alt_inv sD_inv iD_inv (fun a b => SubR (.dat a) (.dat b) r) (fun _ _ h => by obtain ⟨d, e, rfl⟩ := Option.map_eq_some_iff.mp h; exact .str e) none_ne)) h
theorem subR {a b r : PV} (h : subV a b = some r) : SubR a b r :=
  alt_inv dat_inv dat_inv (fun a b => SubR a b r) (fun _ _ h => subD_R h)
    (alt_inv dct_inv dat_inv (fun a b => SubR a b r) (fun kvs d h => by obtain ⟨x, g, k⟩ := Option.bind_eq_some_iff.mp h; exact sD_inv g ▸ .dct k) none_ne) h
noncomputable def pickL {α : Type} (xs : List α) (lo hi st : Option Int) : List α :=
  (sliceRange (sliceBounds lo hi st xs.length).1 (sliceBounds lo hi st xs.length).2.1 (sliceBounds lo hi st xs.length).2.2).filterMap (xs[·]?)
noncomputable def partV : PV → Option Int
  | .dat (.int i) => some i
  | _ => none


/-- the builtins that the law calls -/
inductive CallB : Str → List PV → Wd → PV → Wd → Prop
  | len {f : Str} {v xs wd} : (f == "len") = true → listV v = some xs → xs.length ≤ small → CallB f [v] wd (.dat (.int xs.length)) wd
  | sum {f : Str} {v xs ns wd} : (f == "sum") = true → listV v = some xs → intsD xs = some ns → CallB f [v] wd (.dat (.int ns.sum)) wd
  | sorted {f : Str} {xs ys wd} : (f == "sorted") = true → sortV xs = some ys → CallB f [.dat (.list xs)] wd (.dat (.list ys)) wd
  | max1 {f : Str} {xs ns m wd} : (f == "max") = true → intsD xs = some ns → maxI ns = some m → CallB f [.dat (.list xs)] wd (.dat (.int m)) wd
  | max2 {f : Str} {a b wd} : (f == "max") = true → CallB f [.dat (.int a), .dat (.int b)] wd (.dat (.int (if b > a then b else a))) wd
  | list {f : Str} {xs wd} : (f == "list") = true → xs.length ≤ small → CallB f [.dat (.list xs)] wd (.dat (.list xs)) wd
  | abcd {f : Str} {x : Str} {wd} : (f == "list") = true → (x == "abcd") = true → CallB f [.dat (.str x)] wd (.dat (.list (x.cps.toList.map fun c => .str ⟨#[c]⟩))) wd
  | sld {f : Str} {a b r wd} : (f == "sorted_list_difference") = true → sldV a b = some r → CallB f [.dat (.list a), .dat (.list b)] wd (.dat r) wd
  | hdr {f : Str} {wd : Wd} : (f == "Headers") = true → CallB f [] wd (.hdr wd.length) (wd ++ [[]])
/-- the methods that the law calls -/
inductive MethV : PV → Str → List PV → Wd → PV → Wd → Prop
  | upper {m : Str} {x : Str} {wd} : (m == "upper") = true → okT x = true → MethV (.dat (.str x)) m [] wd (.dat (.str (Txt.upper x))) wd
  | items {m : Str} {k its} {wd : Wd} : (m == "items") = true → wd[k]? = some its → okI its = true → MethV (.hdr k) m [] wd (.dat (.list (its.map pairD))) wd
  | get {m : Str} {k its x} {wd : Wd} : (m == "get") = true → wd[k]? = some its → okI its = true → okT x = true → MethV (.hdr k) m [.dat (.str x)] wd (.dat (hGet its x)) wd
  | all {m : Str} {k its x} {wd : Wd} : (m == "get_all") = true → wd[k]? = some its → okI its = true → okT x = true → MethV (.hdr k) m [.dat (.str x)] wd (.dat (.list (hAll its x))) wd
  | add {m : Str} {k its x y} {wd : Wd} : (m == "add_header") = true → wd[k]? = some its → okI its = true → okT x = true → okT y = true → MethV (.hdr k) m [.dat (.str x), .dat (.str y)] wd (.dat .none) (wd.set k (its ++ [(x, y)]))
inductive SetV : Nat → Str → Str → Wd → Wd → Prop
  | mk {k its x y} {wd : Wd} : wd[k]? = some its → okI its = true → okT x = true → okT y = true → SetV k x y wd (wd.set k (hSet its x y))

/-- what a level may call: builtins by name, methods, methods with one name of a bool, an item's store -/
structure Lf where
  cb : Str → List PV → Wd → PV → Wd → Prop
  mv : PV → Str → List PV → Wd → PV → Wd → Prop
  kv : PV → Str → PV → Bool → PV → Prop
  si : Nat → Str → Str → Wd → Wd → Prop
inductive Meth0 : PV → Str → List PV → Wd → PV → Wd → Prop
  | lower {m : Str} {x : Str} {wd} : (m == "lower") = true → okT x = true → Meth0 (.dat (.str x)) m [] wd (.dat (.str (lowT x))) wd
  | join {m : Str} {x y : Str} {wd} : (m == "join") = true → (x == "; ") = true → okT y = true → Meth0 (.dat (.str x)) m [.mut [.str y]] wd (.dat (.str y)) wd
inductive Kw0 : PV → Str → PV → Bool → PV → Prop
  | inst {d x b} {m : Str} : (m == "_convert_string_type") = true → okT x = true → Kw0 (.inst d) m (.dat (.str x)) b (.dat (.str x))
  | self {l x b} {m : Str} : (m == "_convert_string_type") = true → okT x = true → Kw0 (.self l) m (.dat (.str x)) b (.dat (.str x))
/-- within the headers' own methods -/
noncomputable def lfN : Lf := ⟨fun _ _ _ _ _ => False, fun _ _ _ _ _ _ => False, fun _ _ _ _ _ => False, fun _ _ _ _ _ => False⟩
noncomputable def lf0 : Lf := ⟨fun _ _ _ _ _ => False, Meth0, Kw0, fun _ _ _ _ _ => False⟩
/-- within the law -/
noncomputable def lf1 : Lf := ⟨CallB, MethV, fun _ _ _ _ _ => False, SetV⟩

noncomputable def okName (x : Str) : Bool := x != "__debug__" && x != "__classdict__"
noncomputable def tagE : Expr → Nat
  | .Set .. => 1
  | .Call .. => 2
  | .Starred .. => 3
  | .Slice .. => 4
  | .ListComp .. => 5
  | .SetComp .. => 5
  | .DictComp .. => 5
  | _ => 0
noncomputable def notSet (e : Expr) : Bool := !Nat.beq (tagE e) 1
noncomputable def plainO (e : Expr) : Bool := !Nat.beq (tagE e) 2
noncomputable def notStar (e : Expr) : Bool := !Nat.beq (tagE e) 3
noncomputable def notSlice (e : Expr) : Bool := !Nat.beq (tagE e) 4
noncomputable def plainVal (e : Expr) : Bool := !Nat.beq (tagE e) 5
noncomputable def seenIn (sc : Scope) (vs : Vars) : Vars := vs.filter fun p => kindIn sc p.1 == some .free
/-- a comprehension's names: what it sees of its surroundings is free in it -/
noncomputable def plainScope (out sc : Scope) : Bool :=
  (sc.names.all fun x => x.2 != .free || kindIn out x.1 == some .cell || kindIn out x.1 == some .free) && sc.kind == .function && !sc.isGenerator && !sc.isCoroutine && sc.names.all fun x => kindIn sc x.1 == some x.2
noncomputable def globV (sc : Scope) (f : Str) : Bool := kindIn sc f == some .globalImplicit

noncomputable def mkTup : List PV → Option PV
  | [a, b] => alt2 a.dat? b.dat? (fun a b => some (.dat (.tuple [a, b]))) <| alt2 a.hdr? b.dat? (fun k b => some (.two (.hdr k) (.dat b))) none
  | [a, b, c] => alt2 a.dat? b.dat? (fun a b => c.dat?.map fun c => .dat (.tuple [a, b, c])) none
  | _ => none
inductive TupR : List PV → PV → Prop
  | two {a b} : TupR [.dat a, .dat b] (.dat (.tuple [a, b]))
  | three {a b c} : TupR [.dat a, .dat b, .dat c] (.dat (.tuple [a, b, c]))
  | hdr {k b} : TupR [.hdr k, .dat b] (.two (.hdr k) (.dat b))
theorem tup2R {a b r : PV} (h : mkTup [a, b] = some r) : TupR [a, b] r :=
  alt_inv dat_inv dat_inv (fun a b => TupR [a, b] r) (fun _ _ h => by exact Option.some.inj h ▸ .two) (alt_inv hdr?_inv dat_inv (fun a b => TupR [a, b] r) (fun _ _ h => by exact Option.some.inj h ▸ .hdr) none_ne) h
theorem tup3R {a b c r : PV} (h : mkTup [a, b, c] = some r) : TupR [a, b, c] r :=
  alt_inv dat_inv dat_inv (fun a b => TupR [a, b, c] r) (fun _ _ h => by obtain ⟨z, h3, rfl⟩ := Option.map_eq_some_iff.mp h; exact dat_inv h3 ▸ .three) none_ne h
theorem tupR {l : List PV} {r : PV} (h : mkTup l = some r) : TupR l r := by
  cases l with
  | nil => exact none_ne h
  | cons a l => cases l with
    | nil => exact none_ne h
    | cons b l => cases l with
      | nil => exact tup2R h
      | cons c l => cases l with
        | nil => exact tup3R h
        | cons => exact none_ne h

/-- an expression, a test, a suite -/
structure Ev where
  ev : Scope → Expr → Vars → Wd → PV → Wd → Prop
  tst : Scope → Expr → Vars → Wd → Bool → Wd → Prop
  exs : Scope → List Stmt → Vars → Wd → Fl → Vars → Wd → Prop

inductive EvsOf (ev : Expr → Wd → PV → Wd → Prop) : List Expr → Wd → List PV → Wd → Prop
  | nil {wd} : EvsOf ev [] wd [] wd
  | cons {e r wd wd₁ wd₂ v vs} : notStar e = true → ev e wd v wd₁ → EvsOf ev r wd₁ vs wd₂ → EvsOf ev (e :: r) wd (v :: vs) wd₂
noncomputable def unitB : BoolOp → Bool
  | .And => true
  | .Or => false
inductive AllT (tst : Expr → Wd → Bool → Wd → Prop) (op : BoolOp) : List Expr → Wd → Bool → Wd → Prop
  | nil {wd} : AllT tst op [] wd (unitB op) wd
  | stop {e r wd wd₁} : tst e wd (!unitB op) wd₁ → AllT tst op (e :: r) wd (!unitB op) wd₁
  | go {e r wd wd₁ wd₂ b} : tst e wd (unitB op) wd₁ → AllT tst op r wd₁ b wd₂ → AllT tst op (e :: r) wd b wd₂
inductive Tests (tst : Expr → Wd → Bool → Wd → Prop) : List Expr → Wd → Bool → Wd → Prop
  | nil {wd} : Tests tst [] wd true wd
  | no {e r wd wd₁} : tst e wd false wd₁ → Tests tst (e :: r) wd false wd₁
  | yes {e r wd wd₁ wd₂ b} : tst e wd true wd₁ → Tests tst r wd₁ b wd₂ → Tests tst (e :: r) wd b wd₂
inductive POpt (ev : Expr → Wd → PV → Wd → Prop) : Option Expr → Wd → Option Int → Wd → Prop
  | none {wd} : POpt ev none wd none wd
  | some {e wd wd' i} : ev e wd (.dat (.int i)) wd' → POpt ev (some e) wd (some i) wd'
/-- the items that a loop goes over -/
inductive ItersOf (E : Ev) (sc : Scope) (vs : Vars) : Expr → Wd → List PyData → Wd → Prop
  | range {f : Str} {p q a k wd wd'} : (f == "range") = true → globV sc "range" = true → EvsOf (fun e wd => E.ev sc e vs wd) [a] wd [.dat (.int k)] wd' → 0 ≤ k → k ≤ small → ItersOf E sc vs (.Call (.Name f p) [a] [] q) wd ((List.range k.toNat).map (fun (i : Nat) => PyData.int (i : Int))) wd'
  | plain {e v xs wd wd'} : notSet e = true → E.ev sc e vs wd v wd' → itemsV v = some xs → xs.length ≤ small → ItersOf E sc vs e wd xs wd'
/-- one clause of a list comprehension, over what it goes over; behind its tests: K -/
inductive Clause (E : Ev) (sc : Scope) (t : Expr) (ifs : List Expr) (K : Vars → List PyData × Wd → List PyData × Wd → Prop) (vs : Vars) : List PyData → List PyData × Wd → List PyData × Wd → Prop
  | nil {σ} : Clause E sc t ifs K vs [] σ σ
  | skip {x r σ σ' vs₁ wd₁} : BindF sc t (.dat x) vs vs₁ → Tests (fun e wd => E.tst sc e vs₁ wd) ifs σ.2 false wd₁ → Clause E sc t ifs K vs r (σ.1, wd₁) σ' → Clause E sc t ifs K vs (x :: r) σ σ'
  | take {x r σ σ₂ σ' vs₁ wd₁} : BindF sc t (.dat x) vs vs₁ → Tests (fun e wd => E.tst sc e vs₁ wd) ifs σ.2 true wd₁ → K vs₁ (σ.1, wd₁) σ₂ → Clause E sc t ifs K vs r σ₂ σ' → Clause E sc t ifs K vs (x :: r) σ σ'
inductive ElemK (E : Ev) (sc : Scope) (elt : Expr) (vs : Vars) : List PyData × Wd → List PyData × Wd → Prop
  | mk {σ d wd'} : E.ev sc elt vs σ.2 (.dat d) wd' → σ.1.length ≤ small → ElemK E sc elt vs σ (σ.1 ++ [d], wd')
inductive NestK (E : Ev) (sc : Scope) (elt t₂ it₂ : Expr) (ifs₂ : List Expr) (vs : Vars) : List PyData × Wd → List PyData × Wd → Prop
  | mk {σ σ' ys wd₁} : ItersOf E sc vs it₂ σ.2 ys wd₁ → Clause E sc t₂ ifs₂ (ElemK E sc elt) vs ys (σ.1, wd₁) σ' → NestK E sc elt t₂ it₂ ifs₂ vs σ σ'
/-- a list comprehension's clauses (one or two), over what the first one goes over -/
inductive CompOf (E : Ev) (sc : Scope) (elt : Expr) : List Comprehension → List PyData → Vars → Wd → List PyData × Wd → Prop
  | one {t it ifs xs vs wd r} : Clause E sc t ifs (ElemK E sc elt) vs xs ([], wd) r → CompOf E sc elt [⟨t, it, ifs, 0⟩] xs vs wd r
  | two {t it ifs t₂ it₂ ifs₂ xs vs wd r} : Clause E sc t ifs (NestK E sc elt t₂ it₂ ifs₂) vs xs ([], wd) r → CompOf E sc elt [⟨t, it, ifs, 0⟩, ⟨t₂, it₂, ifs₂, 0⟩] xs vs wd r
inductive DClause (E : Ev) (sc : Scope) (t k v : Expr) (vs : Vars) : List PyData → List (Str × PV) × Wd → List (Str × PV) × Wd → Prop
  | nil {σ} : DClause E sc t k v vs [] σ σ
  | cons {x r σ σ' vs₁ wd₁ wd₂ a b} : BindF sc t (.dat x) vs vs₁ → E.ev sc k vs₁ σ.2 (.dat (.str a)) wd₁ → E.ev sc v vs₁ wd₁ b wd₂ → σ.1.lookup a = none → notMut b = true → σ.1.length ≤ small → DClause E sc t k v vs r (σ.1 ++ [(a, b)], wd₂) σ' → DClause E sc t k v vs (x :: r) σ σ'
inductive DctOf (E : Ev) (sc : Scope) (k v : Expr) : List Comprehension → List PyData → Vars → Wd → List (Str × PV) × Wd → Prop
  | mk {t it xs vs wd r} : DClause E sc t k v vs xs ([], wd) r → DctOf E sc k v [⟨t, it, [], 0⟩] xs vs wd r
inductive DispOf (ev : Expr → Wd → PV → Wd → Prop) : List (Option Expr) → List Expr → Wd → List (Str × PV) → Wd → Prop
  | nil {wd} : DispOf ev [] [] wd [] wd
  | cons {x k p ks e es wd wd₁ wd₂ b r} : ev e wd b wd₁ → notMut b = true → DispOf ev ks es wd₁ r wd₂ → DispOf ev (some (.Constant (.str x) k p) :: ks) (e :: es) wd ((x, b) :: r) wd₂

noncomputable def fnD (f : Str) : List Str × List Stmt × Scope := ((defIn PG.main.body f).getD ([], [], ⟨.module, [], false, false, []⟩))

inductive CallF (L : Lf) (E : Ev) : Str → List PV → Wd → PV → Wd → Prop
  | own {f a args fl vs' wd wd'} : lawDefs.lookup f = some a → (fnD f).1.length = args.length → args.all notMut = true → E.exs (fnD f).2.2 (fnD f).2.1 ((fnD f).1.zip args) wd fl vs' wd' → CallF L E f args wd (retV fl) wd'
  | blt {f args v wd wd'} : L.cb f args wd v wd' → CallF L E f args wd v wd'

inductive EvStep (L : Lf) (E : Ev) (sc : Scope) (vs : Vars) : Expr → Wd → PV → Wd → Prop
  | const {c k p v wd} : constV c = some v → EvStep L E sc vs (.Constant c k p) wd v wd
  | name {x p v wd} : (heldKind sc x && okName x) = true → vs.lookup x = some v → EvStep L E sc vs (.Name x p) wd v wd
  | list {es p xs ds wd wd'} : EvsOf (fun e wd => E.ev sc e vs wd) es wd xs wd' → xs.length ≤ small → dats xs = some ds → EvStep L E sc vs (.List es p) wd (.dat (.list ds)) wd'
  | tuple {es k p xs v wd wd'} : EvsOf (fun e wd => E.ev sc e vs wd) es wd xs wd' → mkTup xs = some v → EvStep L E sc vs (.Tuple es k p) wd v wd'
  | bin {l op r p a b v wd wd₁ wd'} : E.ev sc l vs wd a wd₁ → E.ev sc r vs wd₁ b wd' → binopV op a b = some v → EvStep L E sc vs (.BinOp l op r p) wd v wd'
  | neg {e p i wd wd'} : E.ev sc e vs wd (.dat (.int i)) wd' → EvStep L E sc vs (.UnaryOp .USub e p) wd (.dat (.int (-i))) wd'
  | ifT {t b o p v wd wd₁ wd'} : E.tst sc t vs wd true wd₁ → E.ev sc b vs wd₁ v wd' → EvStep L E sc vs (.IfExp t b o p) wd v wd'
  | ifF {t b o p v wd wd₁ wd'} : E.tst sc t vs wd false wd₁ → E.ev sc o vs wd₁ v wd' → EvStep L E sc vs (.IfExp t b o p) wd v wd'
  | cmp {l op r p a b c wd wd₁ wd'} : E.ev sc l vs wd a wd₁ → E.ev sc r vs wd₁ b wd' → behindInMarks op r = false → cmpV op a b = some c → EvStep L E sc vs (.Compare l [op] [r] p) wd (.dat (.bool c)) wd'
  | slice {e lo hi st p q xs i j k wd wd₁ wd₂ wd₃ wd'} : E.ev sc e vs wd (.dat (.list xs)) wd₁ → POpt (fun e wd => E.ev sc e vs wd) lo wd₁ i wd₂ → POpt (fun e wd => E.ev sc e vs wd) hi wd₂ j wd₃ → POpt (fun e wd => E.ev sc e vs wd) st wd₃ k wd' → k ≠ some 0 → xs.length ≤ small →
      EvStep L E sc vs (.Subscript e (.Slice lo hi st p) q) wd (.dat (.list (pickL xs i j k))) wd'
  | sub {e i p a b v wd wd₁ wd'} : notSlice i = true → E.ev sc e vs wd a wd₁ → E.ev sc i vs wd₁ b wd' → subV a b = some v → EvStep L E sc vs (.Subscript e i p) wd v wd'
  | call {f p q args xs v wd wd₁ wd'} : (globV sc f && okName f && decide (args.length < 30)) = true → EvsOf (fun e wd => E.ev sc e vs wd) args wd xs wd₁ → CallF L E f xs wd₁ v wd' → EvStep L E sc vs (.Call (.Name f p) args [] q) wd v wd'
  | meth {o ap pos args a xs v wd wd₁ wd₂ wd'} {m : Str} : (plainO o && ap.endLine == pos.line && decide (args.length < 30)) = true → E.ev sc o vs wd a wd₁ → EvsOf (fun e wd => E.ev sc e vs wd) args wd₁ xs wd₂ → L.mv a m xs wd₂ v wd' → EvStep L E sc vs (.Call (.Attribute o m ap) args [] pos) wd v wd'
  | kw {o ap pos e k r r' t a x v wd wd₁ wd'} {m kw : Str} : (kw == "name" && plainO o && ap.endLine == pos.line) = true → E.ev sc o vs wd a wd₁ → EvsOf (fun e wd => E.ev sc e vs wd) [e] wd₁ [x] wd' → L.kv a m x t v → EvStep L E sc vs (.Call (.Attribute o m ap) [e] [⟨some kw, .Constant (.bool t) k r, r'⟩] pos) wd v wd'
  | attr {e p d wd wd'} {m : Str} : (m == "_headers" && plainO e) = true → E.ev sc e vs wd (.inst d) wd' → EvStep L E sc vs (.Attribute e m p) wd (.dat d) wd'
  | attrS {e p l wd wd'} {m : Str} : (m == "_headers" && plainO e) = true → E.ev sc e vs wd (.self l) wd' → EvStep L E sc vs (.Attribute e m p) wd (.obj l) wd'
  | lc {elt g gs sc' p xs r wd wd₁} : plainScope sc sc' = true → ItersOf E sc vs g.iter wd xs wd₁ → CompOf E sc' elt (g :: gs) xs (seenIn sc' vs) wd₁ r → EvStep L E sc vs (.ListComp elt (g :: gs) sc' p) wd (.dat (.list r.1)) r.2
  | dc {k v g gs sc' p xs r wd wd₁} : plainScope sc sc' = true → ItersOf E sc vs g.iter wd xs wd₁ → DctOf E sc' k v (g :: gs) xs (seenIn sc' vs) wd₁ r → EvStep L E sc vs (.DictComp k v (g :: gs) sc' p) wd (.dct r.1) r.2
  | dict {ks es p r wd wd'} : DispOf (fun e wd => E.ev sc e vs wd) ks es wd r wd' → ((r.map (·.1)).Nodup && decide (1 ≤ ks.length) && decide (ks.length ≤ 15)) = true → EvStep L E sc vs (.Dict ks es p) wd (.dct r) wd'

inductive TstStep (E : Ev) (sc : Scope) (vs : Vars) : Expr → Wd → Bool → Wd → Prop
  | bool {op es p b wd wd'} : AllT (fun e wd => E.tst sc e vs wd) op es wd b wd' → TstStep E sc vs (.BoolOp op es p) wd b wd'
  | cmp {l op r p a b c wd wd₁ wd'} : E.ev sc l vs wd a wd₁ → E.ev sc r vs wd₁ b wd' → behindInMarks op r = false → cmpV op a b = some c → TstStep E sc vs (.Compare l [op] [r] p) wd c wd'

noncomputable def swapOk : Expr → Bool
  | .Tuple es _ _ => !(es.all (constantsAlone 8))
  | _ => true
inductive ForL (E : Ev) (sc : Scope) (t : Expr) (b : List Stmt) : List PyData → Vars → Wd → Fl → Vars → Wd → Prop
  | nil {vs wd} : ForL E sc t b [] vs wd .next vs wd
  | next {x r vs vs₁ vs₂ vs' wd wd₂ wd' fl} : BindT sc t (.dat x) vs vs₁ → E.exs sc b vs₁ wd .next vs₂ wd₂ → ForL E sc t b r vs₂ wd₂ fl vs' wd' → ForL E sc t b (x :: r) vs wd fl vs' wd'
  | ret {x r vs vs₁ vs' wd wd' v} : BindT sc t (.dat x) vs vs₁ → E.exs sc b vs₁ wd (.ret v) vs' wd' → ForL E sc t b (x :: r) vs wd (.ret v) vs' wd'
inductive WhileL (E : Ev) (sc : Scope) (t : Expr) (b : List Stmt) : Nat → Vars → Wd → Vars → Wd → Prop
  | stop {k vs wd wd'} : E.tst sc t vs wd false wd' → WhileL E sc t b (k + 1) vs wd vs wd'
  | go {k vs vs₂ vs' wd wd₁ wd₂ wd'} : E.tst sc t vs wd true wd₁ → E.exs sc b vs wd₁ .next vs₂ wd₂ → WhileL E sc t b k vs₂ wd₂ vs' wd' → WhileL E sc t b (k + 1) vs wd vs' wd'
inductive ExStep (L : Lf) (E : Ev) (sc : Scope) : Stmt → Vars → Wd → Fl → Vars → Wd → Prop
  | name {x p e q v vs wd wd'} : plainVal e = true → E.ev sc e vs wd v wd' → ownKind sc x = true → notMut v = true → ExStep L E sc (.Assign [.Name x p] e q) vs wd .next ((x, v) :: vs) wd'
  | lc {x p elt gens sc' z q v vs wd wd'} : EvStep L E sc vs (.ListComp elt gens sc' z) wd v wd' → ownKind sc x = true → notMut v = true → ExStep L E sc (.Assign [.Name x p] (.ListComp elt gens sc' z) q) vs wd .next ((x, v) :: vs) wd'
  | mut {x p z q vs wd} : ownKind sc x = true → ExStep L E sc (.Assign [.Name x p] (.List [] z) q) vs wd .next ((x, .mut []) :: vs) wd
  | tup {ts k p e q v vs vs' wd wd'} : swapOk e = true → plainVal e = true → E.ev sc e vs wd v wd' → BindT sc (.Tuple ts k p) v vs vs' → ExStep L E sc (.Assign [.Tuple ts k p] e q) vs wd .next vs' wd'
  | sub {o i p e q k x y vs wd wd₁ wd₂ wd₃ wd'} : E.ev sc e vs wd (.dat (.str y)) wd₁ → E.ev sc o vs wd₁ (.hdr k) wd₂ → E.ev sc i vs wd₂ (.dat (.str x)) wd₃ → L.si k x y wd₃ wd' → ExStep L E sc (.Assign [.Subscript o i p] e q) vs wd .next vs wd'
  | ext {x px ap e pos q xs ys vs wd wd'} {m : Str} : (m == "extend" && heldKind sc x && okName x && ap.endLine == pos.line && (vs.all fun p => p.1 == x || notMut p.2)) = true → vs.lookup x = some (.mut xs) → EvsOf (fun e wd => E.ev sc e vs wd) [e] wd [.dat (.list ys)] wd' → xs.length ≤ small → ys.length ≤ small →
      ExStep L E sc (.Expr (.Call (.Attribute (.Name x px) m ap) [e] [] pos) q) vs wd .next ((x, .mut (xs ++ ys)) :: vs) wd'
  | expr {e q v vs wd wd'} : plainVal e = true → E.ev sc e vs wd v wd' → ExStep L E sc (.Expr e q) vs wd .next vs wd'
  | ifT {t b o p fl vs vs' wd wd₁ wd'} : E.tst sc t vs wd true wd₁ → E.exs sc b vs wd₁ fl vs' wd' → ExStep L E sc (.If t b o p) vs wd fl vs' wd'
  | ifF {t b o p fl vs vs' wd wd₁ wd'} : E.tst sc t vs wd false wd₁ → E.exs sc o vs wd₁ fl vs' wd' → ExStep L E sc (.If t b o p) vs wd fl vs' wd'
  | loop {t it b p xs fl vs vs' wd wd₁ wd'} : ItersOf E sc vs it wd xs wd₁ → ForL E sc t b xs vs wd₁ fl vs' wd' → ExStep L E sc (.For t it b [] p) vs wd fl vs' wd'
  | while {t b p k vs vs' wd wd'} : WhileL E sc t b k vs wd vs' wd' → ExStep L E sc (.While t b [] p) vs wd .next vs' wd'
  | ret {e p v vs wd wd'} : E.ev sc e vs wd v wd' → ExStep L E sc (.Return (some e) p) vs wd (.ret v) vs wd'
inductive ExsStep (L : Lf) (E : Ev) (sc : Scope) : List Stmt → Vars → Wd → Fl → Vars → Wd → Prop
  | nil {vs wd} : ExsStep L E sc [] vs wd .next vs wd
  | next {st r fl vs vs₁ vs' wd wd₁ wd'} : ExStep L E sc st vs wd .next vs₁ wd₁ → ExsStep L E sc r vs₁ wd₁ fl vs' wd' → ExsStep L E sc (st :: r) vs wd fl vs' wd'
  | ret {st r v vs vs' wd wd'} : ExStep L E sc st vs wd (.ret v) vs' wd' → ExsStep L E sc (st :: r) vs wd (.ret v) vs' wd'
noncomputable def evN (L : Lf) : Nat → Ev
  | 0 => ⟨fun _ _ _ _ _ _ => False, fun _ _ _ _ _ _ => False, fun _ _ _ _ _ _ _ => False⟩
  | n + 1 => ⟨fun sc e vs wd v wd' => EvStep L (evN L n) sc vs e wd v wd', fun sc e vs wd b wd' => TstStep (evN L n) sc vs e wd b wd', ExsStep L (evN L n)⟩
structure HdrOk (P : Params) (h : Heap) (M : List Addr) (p : Addr × Addr) (items : List (Str × Str)) : Prop where
  inst : ∃ dx t n, (Hid h M).get? p.1 = some (instObj 189 dx) ∧ (Hid h M).get? dx = some (dictOf [⟨PyData.keyHash P "_headers", .str "_headers" t, .ref p.2⟩] n)
  list : ∃ vs n as, h.get? p.2 = some ⟨.type "list", none, .seq vs n, #[]⟩ ∧ ReadsAll (Hid h M) vs.toList (items.map pairD) as

/-- what the names of the module and the builtins say -/
noncomputable def TopI (h : Heap) : Prop := ∃ mg mb : Str → Option Value, h.Ns mainGlobals mg ∧ h.Ns builtinsNs mb ∧ h.NoLimit ∧ ∀ x : Str, x ≠ "__name__" → mb x = bootBuiltins x
theorem TopI.keeps {h h' : Heap} (T : TopI h) (k : ∀ a o, h.get? a = some o → h'.get? a = some o) : TopI h' := by
  obtain ⟨mg, mb, h1, h2, h3, h4⟩ := T
  exact ⟨mg, mb, h1.keeps k, h2.keeps k, h3.keeps k, h4⟩
structure WInv (w : World) (M : List Addr) (Hs : HL) (wd : Wd) (h : Heap) : Prop where
  kin : (KF w).In (Hid h M)
  tr : TopI (Hid h M)
  len : Hs.length = wd.length
  hd : ∀ (k : Nat) p items, Hs[k]? = some p → wd[k]? = some items → HdrOk w.params h M p items
  hlM : ∀ p ∈ Hs, p.2 ∈ M
  nd : (Hs.map (·.2)).Nodup

structure AInv (A : Around) (F M : List Addr) (h : Heap) (n : Nat) : Prop where
  handled : A.handled = none
  frames : ∃ fs : List Env, A.frames = some fs ∧ fs.filterMap (·.frame) = F ∧ ∀ e ∈ fs, e.scope.kind ≠ .module ∧ ∃ L m, e.frame = some L ∧ h.Ns L m
  fM : ∀ a ∈ F, a ∈ M
  depth : A.depth + n + 20 < recursionLimit
  units : A.units + 3 * n + 300 < cLine

/-- an environment that bears a scope's names -/
structure EnvK (env : Env) (sc : Scope) : Prop where
  kind : env.scope.kind = .function
  glob : env.globals = mainGlobals
  blt : env.builtins = builtinsNs
  names : ∀ x k, kindIn sc x = some k → env.kindOf x = some k ∨ (k = .free ∧ env.kindOf x = some .cell)

noncomputable def VarAt (env : Env) (h : Heap) (m : Str → Option Value) (x : Str) (v : Value) : Prop :=
  (env.kindOf x = some .local ∧ m x = some v) ∨ ((env.kindOf x = some .cell ∨ env.kindOf x = some .free) ∧ ∃ c, env.cells.lookup x = some c ∧ h.IsCell c (some v))

structure EInv (w : World) (env : Env) (F ML M : List Addr) (Hs : HL) (vs : Vars) (h : Heap) : Prop where
  ns : ∃ m, h.Ns env.locals m ∧ ∀ x pv, vs.lookup x = some pv → ∃ v, Vr w.params h M Hs ML v pv ∧ VarAt env h m x v
  locM : env.locals ∈ M
  locH : env.locals ∉ Hs.map (·.2)
  cells : ∀ x c, env.cells.lookup x = some c → c ∈ M ∧ c ∉ Hs.map (·.2) ∧ c ≠ env.locals ∧ ∃ v, h.IsCell c v
  cellOf : ∀ x, (env.kindOf x = some .cell ∨ env.kindOf x = some .free) → ∃ c, env.cells.lookup x = some c
  inj : ∀ x y c, env.cells.lookup x = some c → env.cells.lookup y = some c → x = y
  ml : MLok Hs F M h ML
  mlx : ∀ a ∈ ML, a ≠ env.locals ∧ ∀ x c, env.cells.lookup x = some c → a ≠ c
  in2 : In2 Hs F M

section
variable {w : World} {A : Around} {env : Env} {S F ML M M' : List Addr} {Hs Hs' : HL} {vs : Vars} {wd : Wd} {h h' : Heap} {n : Nat}

theorem AInv.hu (I : AInv A F M h n) : A.units + 300 < cLine := by have := I.units; omega
theorem AInv.less {n' : Nat} (I : AInv A F M h n) (hn : n' ≤ n) : AInv A F M h n' := ⟨I.handled, I.frames, I.fM, by have := I.depth; omega, by have := I.units; omega⟩

theorem isCell_go (G : Go S Hs F M h Hs' M' h') {c : Addr} {v : Option Value} (e : h.IsCell c v) (hs : c ∉ S) (hh : c ∉ Hs.map (·.2)) : h'.IsCell c v := by
  obtain ⟨o, ho, hd⟩ := e
  obtain ⟨sl, e'⟩ := G.data ho hs hh
  exact ⟨_, e', hd⟩
theorem ns_go (G : Go S Hs F M h Hs' M' h') {a : Addr} {m : Str → Option Value} (e : h.Ns a m) (hs : a ∉ S) (hh : a ∉ Hs.map (·.2)) : h'.Ns a m := by
  obtain ⟨o, es, ep, ho, hd, r⟩ := e
  obtain ⟨sl, e'⟩ := G.data ho hs hh
  exact ⟨_, es, ep, e', hd, r⟩
theorem AInv.go (I : AInv A F M h n) (G : Go S Hs F M h Hs' M' h') (hS : ∀ a ∈ F, a ∉ S) (hH : ∀ a ∈ F, a ∉ Hs.map (·.2)) : AInv A F M' h' n := by
  obtain ⟨fs, e1, e2, e3⟩ := I.frames
  refine ⟨I.handled, ⟨fs, e1, e2, fun e he => ?_⟩, fun a ha => G.ms a (I.fM a ha), I.depth, I.units⟩
  obtain ⟨k, L, m, f1, f2⟩ := e3 e he
  have hL : L ∈ F := e2 ▸ List.mem_filterMap.mpr ⟨e, he, f1⟩
  exact ⟨k, L, m, f1, ns_go G f2 (hS L hL) (hH L hL)⟩
theorem AInv.ns (I : AInv A F M h n) {L : Addr} (hL : L ∈ F) : ∃ m, h.Ns L m := by
  obtain ⟨fs, e1, e2, e3⟩ := I.frames
  rw [← e2] at hL
  obtain ⟨e, he, hf⟩ := List.mem_filterMap.mp hL
  obtain ⟨_, L', m, f1, f2⟩ := e3 e he
  rw [f1] at hf
  cases hf
  exact ⟨m, f2⟩
/-- every frame's place stands as a namespace -/
theorem AInv.of (I : AInv A F M h n) (hm : ∀ a ∈ M, a ∈ M') (hn : ∀ L ∈ F, ∃ m, h'.Ns L m) : AInv A F M' h' n := by
  obtain ⟨fs, e1, e2, e3⟩ := I.frames
  refine ⟨I.handled, ⟨fs, e1, e2, fun e he => ?_⟩, fun a ha => hm a (I.fM a ha), I.depth, I.units⟩
  obtain ⟨k, L, m, f1, f2⟩ := e3 e he
  obtain ⟨m', q⟩ := hn L (e2 ▸ List.mem_filterMap.mpr ⟨e, he, f1⟩)
  exact ⟨k, L, m', f1, q⟩
theorem ns_not_cell {a : Addr} {m : Str → Option Value} {v : Option Value} (e : h.Ns a m) (c : h.IsCell a v) : False := by
  obtain ⟨o, es, ep, ho, hd, _⟩ := e
  obtain ⟨o', ho', hd'⟩ := c
  rw [ho] at ho'; cases ho'
  rw [hd] at hd'; cases hd'
theorem VarAt.go (G : Go S Hs F M h Hs' M' h') {m : Str → Option Value} {x : Str} {v : Value} (V : VarAt env h m x v) (hs : ∀ x c, env.cells.lookup x = some c → c ∉ S ∧ c ∉ Hs.map (·.2)) : VarAt env h' m x v := by
  rcases V with V | ⟨k, c, hc, e⟩
  · exact .inl V
  · exact .inr ⟨k, c, hc, isCell_go G e (hs x c hc).1 (hs x c hc).2⟩
theorem EInv.lt (I : EInv w env F ML M Hs vs h) : ∃ o, h.get? env.locals = some o := by
  obtain ⟨m, ⟨o, _, _, ho, _⟩, _⟩ := I.ns
  exact ⟨o, ho⟩
theorem in2_go (I : In2 Hs F M) (G : Go S Hs F M h Hs' M' h') (W : ∀ p ∈ Hs', p.2 ∈ M') : In2 Hs' F M' := ⟨W, fun a ha => G.ms a (I.fr a ha)⟩
/-- a run that turns nothing of the environment's own keeps it -/
theorem EInv.goS (I : EInv w env F ML M Hs vs h) (G : Go S Hs F M h Hs' M' h') (W : ∀ p ∈ Hs', p.2 ∈ M') (hM : ∀ a ∈ S, a ∈ M) (hL : env.locals ∉ S) (hC : ∀ x c, env.cells.lookup x = some c → c ∉ S) (hml : ∀ a ∈ ML, a ∉ S) : EInv w env F ML M' Hs' vs h' := by
  obtain ⟨m, hn, hv⟩ := I.ns
  refine ⟨⟨m, ns_go G hn hL I.locH, fun x pv e => ?_⟩, G.ms _ I.locM, ?_, fun x c e => ?_, I.cellOf, I.inj, I.ml.go G, I.mlx, in2_go I.in2 G W⟩
  · obtain ⟨v, r, a⟩ := hv x pv e
    exact ⟨v, r.go G I.in2 I.ml hM hml, a.go G fun x c e => ⟨hC x c e, (I.cells x c e).2.1⟩⟩
  · obtain ⟨o, ho⟩ := I.lt
    exact G.hlNew ho I.locH
  · obtain ⟨c1, c2, c3, v, ⟨o, ho, hd⟩⟩ := I.cells x c e
    exact ⟨G.ms c c1, G.hlNew ho c2, c3, v, isCell_go G ⟨o, ho, hd⟩ (hC x c e) c2⟩
theorem EInv.go (I : EInv w env F ML M Hs vs h) (G : Go [] Hs F M h Hs' M' h') (W : ∀ p ∈ Hs', p.2 ∈ M') : EInv w env F ML M' Hs' vs h' :=
  I.goS G W (fun _ m => nomatch m) (fun m => nomatch m) (fun _ _ _ m => nomatch m) fun _ _ m => nomatch m

theorem HdrOk.mv {P : Params} {p : Addr × Addr} {items : List (Str × Str)} (H : HdrOk P h M p items) (k : ∀ a o, (Hid h M).get? a = some o → (Hid h' M').get? a = some o) (kl : ∀ o, h.get? p.2 = some o → h'.get? p.2 = some o) : HdrOk P h' M' p items := by
  obtain ⟨⟨dx, t, n, e1, e2⟩, ⟨vs, n', as, e3, e4⟩⟩ := H
  exact ⟨⟨dx, t, n, k _ _ e1, k _ _ e2⟩, ⟨vs, n', as, kl _ e3, ReadsAll.keeps k e4⟩⟩
/-- the headers stand as they stood -/
theorem WInv.mv (I : WInv w M Hs wd h) (k : ∀ a o, (Hid h M).get? a = some o → (Hid h' M').get? a = some o) (kl : ∀ p ∈ Hs, ∀ o, h.get? p.2 = some o → h'.get? p.2 = some o) (hM : ∀ a ∈ M, a ∈ M') : WInv w M' Hs wd h' :=
  ⟨fun a o e => k _ _ (I.kin a o e), I.tr.keeps k, I.len, fun i p it e1 e2 => (I.hd i p it e1 e2).mv k (kl p (List.mem_of_getElem? e1)), fun p hp => hM _ (I.hlM p hp), I.nd⟩
theorem WInv.kp (I : WInv w M Hs wd h) (k : Kp h h') : WInv w M Hs wd h' := I.mv (Hid.kp k) (fun p _ o e => k.get _ _ e) fun _ m => m
theorem Vr.kp {P : Params} {v : Value} {pv : PV} (r : Vr P h M Hs ML v pv) (k : Kp h h') : Vr P h' M Hs ML v pv := by
  rcases r with r | ⟨a, vs, n, xs, as, rfl, rfl, ha, e, rs⟩
  · exact .inl (r.mono (Hid.kp k) fun _ _ e => e)
  · exact .inr ⟨a, vs, n, xs, as, rfl, rfl, ha, k.get _ _ e, ReadsAll.keeps (Hid.kp k) rs⟩
end
noncomputable def Rd (h : Heap) (M : List Addr) (v : Value) (d : PyData) : Prop := ∃ as, Reads (Hid h M) v d as
noncomputable def RdA (h : Heap) (M : List Addr) (vs : List Value) (ds : List PyData) : Prop := ∃ as, ReadsAll (Hid h M) vs ds as
/-- the mutable addresses all stand -/
noncomputable def Mt (h : Heap) (M : List Addr) : Prop := ∀ a ∈ M, a < h.objs.size
theorem Mt.new {h : Heap} {M : List Addr} (m : Mt h M) : h.objs.size ∉ M := fun q => Nat.lt_irrefl _ (m _ q)
theorem Mt.kp {h h' : Heap} {M : List Addr} (m : Mt h M) (k : Kp h h') : Mt h' M := fun a q => Nat.lt_of_lt_of_le (m a q) k.size

section
variable {P : Params} {h h' : Heap} {M ML : List Addr} {Hs : HL} {v : Value} {vs : List Value} {d : PyData} {ds xs : List PyData} {pv : PV}
theorem Rd.kp (r : Rd h M v d) (k : Kp h h') : Rd h' M v d := by obtain ⟨as, r⟩ := r; exact ⟨as, Reads.keeps (Hid.kp k) r⟩
theorem RdA.kp (r : RdA h M vs ds) (k : Kp h h') : RdA h' M vs ds := by obtain ⟨as, r⟩ := r; exact ⟨as, ReadsAll.keeps (Hid.kp k) r⟩
theorem Rd.here (r : Rd h M v d) : ∃ as, Reads h v d as := by obtain ⟨as, r⟩ := r; exact ⟨as, Reads.keeps (fun _ _ e => Hid.of e) r⟩
theorem RdA.here (r : RdA h M vs ds) : ∃ as, ReadsAll h vs ds as := by obtain ⟨as, r⟩ := r; exact ⟨as, ReadsAll.keeps (fun _ _ e => Hid.of e) r⟩
theorem Vr.rd (r : Vr P h M Hs ML v (.dat d)) : Rd h M v d := r.shape
theorem Rd.vr (r : Rd h M v d) : Vr P h M Hs ML v (.dat d) := by obtain ⟨as, r⟩ := r; exact .inl (.dat r)
theorem Rd.none : Rd h M .none .none := ⟨_, .none⟩
theorem Rd.bool (b : Bool) : Rd h M (.bool b) (.bool b) := ⟨_, .bool b⟩
theorem Rd.int (i : Int) (t : Tok) : Rd h M (.int i t) (.int i) := ⟨_, .int i t⟩
theorem Rd.str (x : Str) (t : Tok) : Rd h M (.str x t) (.str x) := ⟨_, .str x t⟩
/-- what a value is that reads as d -/
noncomputable def RdShape (h : Heap) (M : List Addr) (v : Value) : PyData → Prop
  | .none => v = .none
  | .bool b => v = .bool b
  | .int i => ∃ t, v = .int i t
  | .str x => ∃ t, v = .str x t
  | .list xs => ∃ a vs, v = .ref a ∧ h.IsList a vs ∧ (Hid h M).IsList a vs ∧ a ∉ M ∧ RdA h M vs.toList xs
  | .tuple xs => ∃ a vs, v = .ref a ∧ IsTup h a vs ∧ IsTup (Hid h M) a vs ∧ a ∉ M ∧ RdA h M vs.toList xs
  | _ => True
theorem Rd.shape (r : Rd h M v d) : RdShape h M v d := by
  obtain ⟨as, r⟩ := r
  exact Reads.casesOn (motive_1 := fun v d _ _ => RdShape h M v d) r rfl (fun _ => rfl) (fun _ t => ⟨t, rfl⟩) (fun _ t => ⟨t, rfl⟩)
    (fun e hc hd rs => ⟨_, _, rfl, ⟨_, Hid.of e, hc, _, hd⟩, ⟨_, e, hc, _, hd⟩, Hid.off e, _, rs⟩)
    (fun e hc hd rs => ⟨_, _, rfl, ⟨_, Hid.of e, hc, _, hd⟩, ⟨_, e, hc, _, hd⟩, Hid.off e, _, rs⟩) (fun _ _ _ _ _ => trivial)
theorem Rd.int_inv {i : Int} (r : Rd h M v (.int i)) : ∃ t, v = .int i t := r.shape
theorem Rd.str_inv {x : Str} (r : Rd h M v (.str x)) : ∃ t, v = .str x t := r.shape
theorem Rd.bool_inv {b : Bool} (r : Rd h M v (.bool b)) : v = .bool b := r.shape
theorem Rd.none_inv (r : Rd h M v .none) : v = .none := r.shape
theorem Rd.list_inv (r : Rd h M v (.list xs)) : ∃ a vs, v = .ref a ∧ h.IsList a vs ∧ (Hid h M).IsList a vs ∧ a ∉ M ∧ RdA h M vs.toList xs := r.shape
theorem Rd.tup_inv (r : Rd h M v (.tuple xs)) : ∃ a vs, v = .ref a ∧ IsTup h a vs ∧ IsTup (Hid h M) a vs ∧ a ∉ M ∧ RdA h M vs.toList xs := r.shape
theorem Rd.list {a : Addr} {vs : Array Value} (e : h.IsList a vs) (n : a ∉ M) (r : RdA h M vs.toList xs) : Rd h M (.ref a) (.list xs) := by
  obtain ⟨o, ho, hc, k, hd⟩ := e
  obtain ⟨as, r⟩ := r
  exact ⟨_, .list (Hid.get ho n) hc hd r⟩
theorem Rd.tup {a : Addr} {vs : Array Value} (e : IsTup h a vs) (n : a ∉ M) (r : RdA h M vs.toList xs) : Rd h M (.ref a) (.tuple xs) := by
  obtain ⟨o, ho, hc, k, hd⟩ := e
  obtain ⟨as, r⟩ := r
  exact ⟨_, .tuple (Hid.get ho n) hc hd r⟩
theorem RdA.nil : RdA h M [] [] := ⟨_, .nil⟩
theorem RdA.cons (r : Rd h M v d) (rs : RdA h M vs ds) : RdA h M (v :: vs) (d :: ds) := by
  obtain ⟨as, r⟩ := r
  obtain ⟨bs, rs⟩ := rs
  exact ⟨_, .cons r rs⟩
noncomputable def RdAShape (h : Heap) (M : List Addr) (vs : List Value) : List PyData → Prop
  | [] => vs = []
  | d :: ds => ∃ v vs', vs = v :: vs' ∧ Rd h M v d ∧ RdA h M vs' ds
theorem RdA.shape (r : RdA h M vs ds) : RdAShape h M vs ds := by
  obtain ⟨as, r⟩ := r
  exact ReadsAll.casesOn (motive_2 := fun vs ds _ _ => RdAShape h M vs ds) r rfl (fun r rs => ⟨_, _, rfl, ⟨_, r⟩, _, rs⟩)
theorem RdA.cons_inv {d : PyData} (r : RdA h M vs (d :: ds)) : ∃ v vs', vs = v :: vs' ∧ Rd h M v d ∧ RdA h M vs' ds := r.shape
theorem RdA.nil_inv (r : RdA h M vs []) : vs = [] := r.shape
theorem RdA.two {a b : PyData} (r : RdA h M vs [a, b]) : ∃ u v, vs = [u, v] ∧ Rd h M u a ∧ Rd h M v b := by
  obtain ⟨u, vs', rfl, ru, r⟩ := r.cons_inv
  obtain ⟨v, vs'', rfl, rv, r⟩ := r.cons_inv
  rw [r.nil_inv]
  exact ⟨u, v, rfl, ru, rv⟩
theorem RdA.len : ∀ {vs : List Value} {ds : List PyData}, RdA h M vs ds → vs.length = ds.length
  | vs, [], r => by rw [r.nil_inv]; rfl
  | vs, d :: ds, r => by
    obtain ⟨v, vs', rfl, _, rs⟩ := r.cons_inv
    rw [List.length_cons, List.length_cons, RdA.len rs]
theorem RdA.get {ds : List PyData} : ∀ {vs : List Value}, RdA h M vs ds → ∀ {i : Nat} {d : PyData}, ds[i]? = some d → ∃ v, vs[i]? = some v ∧ Rd h M v d := by
  induction ds with
  | nil => intro vs r i d e; exact none_ne e
  | cons d ds ih =>
    intro vs r i d' e
    obtain ⟨v, vs', rfl, r, rs⟩ := r.cons_inv
    induction i with
    | zero => exact ⟨v, rfl, Option.some.inj e ▸ r⟩
    | succ i => exact ih rs (i := i) e
theorem RdA.app : ∀ {vs ws : List Value} {ds es : List PyData}, RdA h M vs ds → RdA h M ws es → RdA h M (vs ++ ws) (ds ++ es)
  | vs, ws, [], es, r, r' => by rw [r.nil_inv]; exact r'
  | vs, ws, d :: ds, es, r, r' => by
    obtain ⟨v, vs', rfl, r, rs⟩ := r.cons_inv
    exact .cons r (RdA.app rs r')
theorem strD_inv {d : PyData} (h : isStrD d = true) : ∃ x, d = .str x := by
  cases d with
  | str x => exact ⟨x, rfl⟩
  | _ => exact ff h
theorem RdA.strs {ds : List PyData} : ∀ {vs : List Value}, RdA h M vs ds → ds.all isStrD = true → ∃ ss, ds = ss.map .str ∧ StrsAre vs ss := by
  induction ds with
  | nil => intro vs r _; rw [r.nil_inv]; exact ⟨[], rfl, .nil⟩
  | cons d ds ih =>
    intro vs r e
    obtain ⟨v, vs', rfl, r1, rs⟩ := r.cons_inv
    have e := and2 e
    obtain ⟨ss, rfl, S⟩ := ih rs e.2
    obtain ⟨x, rfl⟩ := strD_inv e.1
    obtain ⟨t, rfl⟩ := r1.str_inv
    exact ⟨x :: ss, rfl, .cons _ _ S⟩
theorem RdA.of_strs {vs : List Value} {ss : List Str} (S : StrsAre vs ss) : RdA h M vs (ss.map .str) := by
  induction S with
  | nil => exact .nil
  | cons x t _ ih => exact .cons (.str x t) ih
theorem ints_cons {d : PyData} {ns : List Int} (e : intsD (d :: ds) = some ns) : ∃ i l, d = .int i ∧ intsD ds = some l ∧ ns = i :: l := by
  cases d with
  | int i => obtain ⟨l, q, rfl⟩ := Option.map_eq_some_iff.mp e; exact ⟨i, l, rfl, q, rfl⟩
  | _ => exact none_ne e
theorem RdA.ints {ds : List PyData} : ∀ {vs : List Value}, RdA h M vs ds → ∀ {ns : List Int}, intsD ds = some ns → IntsAre vs ns := by
  induction ds with
  | nil => intro vs r ns e; rw [r.nil_inv, ← Option.some.inj e]; exact .nil
  | cons d ds ih =>
    intro vs r ns e
    obtain ⟨v, vs', rfl, r, rs⟩ := r.cons_inv
    obtain ⟨i, l, rfl, q, rfl⟩ := ints_cons e
    obtain ⟨t, rfl⟩ := r.int_inv
    exact .cons _ _ (ih rs q)
theorem RdA.rep {vs : List Value} {ds : List PyData} (r : RdA h M vs ds) : ∀ k : Nat, RdA h M (List.replicate k vs).flatten (List.replicate k ds).flatten
  | 0 => .nil
  | k + 1 => by
    rw [List.replicate_succ, List.replicate_succ, List.flatten_cons, List.flatten_cons]
    exact r.app (RdA.rep r k)
theorem mt_hid_push {o : Obj} (m : Mt h M) (hf : o.isFreed = false := by rfl) : (Hid (h.push o) M).get? h.objs.size = some o := Hid.get (Heap.get?_push_size _ hf) m.new
theorem Rd.newList (m : Mt h M) {vs : List Value} (r : RdA h M vs xs) : Rd (h.push { cls := .type "list", data := .seq vs.toArray }) M (.ref h.objs.size) (.list xs) :=
  .list ⟨_, Heap.get?_push_size _ rfl, rfl, 0, rfl⟩ m.new (by simpa using r.kp (Kp.push _ _))
theorem Rd.newTup (m : Mt h M) {vs : List Value} (r : RdA h M vs xs) : Rd (h.push { cls := .type "tuple", data := .seq vs.toArray }) M (.ref h.objs.size) (.tuple xs) :=
  .tup ⟨_, Heap.get?_push_size _ rfl, rfl, 0, rfl⟩ m.new (by simpa using r.kp (Kp.push _ _))
end

/-- a step that makes a value, all that stood standing -/
noncomputable abbrev MkV (w : World) (M ML : List Addr) (Hs : HL) (s : Shared) (Q : Value → Shared → Prop) (pv : PV) : Prop :=
  ∀ v h' tk, Kp s.heap h' → Vr w.params h' M Hs ML v pv → Q v { s with heap := h', toks := tk }

section
variable {w : World} {A : Around} {F ML M : List Addr} {Hs : HL} {n : Nat} {s : Shared} {Q : Value → Shared → Prop} {X : Value → Shared → Prop} {a b : PV} {va vb : Value} {r : PV}
theorem size_small {n : Nat} (e : n ≤ small) : n ≤ sizeLine := Nat.le_trans e (by decide)

theorem addL_snd {xs ys : List PyData} (m : Mt s.heap M) (h1 : xs.length ≤ small) (h2 : ys.length ≤ small) (ra : Rd s.heap M va (.list xs)) (rb : Rd s.heap M vb (.list ys)) (hQ : MkV w M ML Hs s Q (.dat (.list (xs ++ ys)))) : wpAny (model PG w) A (binaryOp .Add va vb) Q X s := by
  obtain ⟨l, vs, rfl, ⟨⟨cls, dd, data, sl⟩, ho, hc, k, hd⟩, _, _, rs⟩ := ra.list_inv
  obtain ⟨l', vs', rfl, ⟨⟨cls2, dd2, data2, sl2⟩, ho2, hc2, k2, hd2⟩, _, _, rs'⟩ := rb.list_inv
  simp only at hc hd hc2 hd2
  subst hc hd hc2 hd2
  have e1 := rs.len
  have e2 := rs'.len
  rw [Array.length_toList] at e1 e2
  have q := hQ _ _ s.toks (Kp.push _ _) (Rd.newList m (rs.app rs')).vr
  rw [← Array.toList_append, Array.toArray_toList] at q
  exact PySem.concat_meets ⟨_, ho, rfl⟩ ⟨_, ho2, rfl⟩ noFill_list_add seq_list_add PySem.F.slot_list_add PySem.F.entry_list_add (PySem.F.args_list_add_2 _ _) (list_addW l l' vs vs' k k2 dd dd2 sl sl2 (by rw [e1, e2]; exact Nat.le_trans (Nat.add_le_add h1 h2) (by decide))) ⟨ho, ho2, q⟩
theorem mulL_snd {xs : List PyData} {y : Int} (m : Mt s.heap M) (h1 : xs.length ≤ small) (h2 : 0 ≤ y) (h3 : y ≤ small) (ra : Rd s.heap M va (.list xs)) (rb : Rd s.heap M vb (.int y)) (hQ : MkV w M ML Hs s Q (.dat (.list (List.replicate y.toNat xs).flatten))) : wpAny (model PG w) A (binaryOp .Mult va vb) Q X s := by
  obtain ⟨l, vs, rfl, ⟨⟨cls, d, data, sl⟩, ho, hc, k, hd⟩, _, _, rs⟩ := ra.list_inv
  obtain ⟨u, rfl⟩ := rb.int_inv
  simp only at hc hd
  subst hc hd
  have e1 := rs.len
  rw [Array.length_toList] at e1
  have sm : small = 1000 := rfl
  have yy : y.toNat ≤ 1000 := by omega
  have vv : vs.size ≤ 1000 := by omega
  have hsz : vs.size * y.toNat ≤ 2 ^ 24 := Nat.le_trans (Nat.mul_le_mul vv yy) (by decide)
  refine PySem.wpAny_binaryOp_repeat_ref (T := "list") (U := "int") (by decide) ⟨_, ho, rfl⟩ (fun s' => typeIs_int s' y u) noFill_list_mul PySem.F.fills_int_mul PySem.F.slot_int_rmul repeat_list PySem.F.slot_int_index.lookup
    (call_meets PySem.F.slot_int_rmul (typeIs_int s y u) PySem.F.entry_int_rmul (PySem.F.args_int_rmul_2 _ _) (lm_int_rmul_list_any y u l vs k d sl)
      ⟨ho, rfl, ⟨_, ho, rfl⟩, call_meets PySem.F.slot_list_mul ⟨_, ho, rfl⟩ PySem.F.entry_list_mul (PySem.F.args_list_mul_2 _ _)
        (lm_list_mul_any l vs k d sl y u (by simp [Builtin.List.listFitsIndex]; omega) (by omega) (by simp [Builtin.List.listTooLong, sizeLine]; omega))
        ⟨ho, ?_⟩⟩)
  rw [listMul_foldl_if]
  exact hQ _ _ _ (Kp.push _ _) (Rd.newList m (RdA.rep rs _)).vr
theorem binop_snd {op : Operator} (I : A.units + 300 < cLine) (m : Mt s.heap M) (e : binopV op a b = some r) (ra : Vr w.params s.heap M Hs ML va a) (rb : Vr w.params s.heap M Hs ML vb b)
    (hQ : MkV w M ML Hs s Q r) : wpAny (model PG w) A (binaryOp op va vb) Q X s := by
  have two : ∀ {x y : Int} {op : Operator}, Rd s.heap M va (.int x) → Rd s.heap M vb (.int y) → (∀ t u, wpAny (model PG w) A (binaryOp op (.int x t) (.int y u)) Q X s) → wpAny (model PG w) A (binaryOp op va vb) Q X s := fun ra rb h => by
    obtain ⟨t, rfl⟩ := ra.int_inv
    obtain ⟨u, rfl⟩ := rb.int_inv
    exact h t u
  have h := binR e
  clear e
  induction h with
  | addI => exact two ra.rd rb.rd fun _ _ => PyProof.Rows.add_int (hQ _ _ _ (Kp.refl _) (Rd.int _ _).vr)
  | addS h1 h2 =>
    obtain ⟨t, rfl⟩ := ra.rd.str_inv
    obtain ⟨u, rfl⟩ := rb.rd.str_inv
    exact PyProof.Rows.add_str (fun t' tk => hQ _ _ _ (Kp.refl _) (Rd.str _ _).vr) (Nat.le_trans (Nat.add_le_add h1 h2) (by decide))
  | addL h1 h2 => exact addL_snd m h1 h2 ra.rd rb.rd hQ
  | sub => exact two ra.rd rb.rd fun _ _ => PyProof.Rows.sub_int (hQ _ _ _ (Kp.refl _) (Rd.int _ _).vr)
  | mul h1 h2 h3 => exact mulL_snd m h1 h2 h3 ra.rd rb.rd hQ
  | mod h => exact two ra.rd rb.rd fun _ _ => PyProof.Rows.mod_int' h (hQ _ _ _ (Kp.refl _) (Rd.int _ _).vr)
  | div h1 h2 => exact two ra.rd rb.rd fun _ _ => PyProof.Rows.floordiv_int h1 (hQ _ _ _ (Kp.refl _) (Rd.int _ _).vr) (.inl (PyProof.noPylong_small (Nat.lt_of_le_of_lt h2 (by decide))))
  | band => exact two ra.rd rb.rd fun _ _ => PyProof.Rows.and_int (hQ _ _ _ (Kp.refl _) (Rd.int _ _).vr)
  | pow h0 h1 => exact two ra.rd rb.rd fun _ _ => pow_int_small h0 (by omega) (by decide) (hQ _ _ _ (Kp.refl _) (Rd.int _ _).vr)
end
section
open PySem.SeqAt PySem.MeetsSeq PySem.MeetsSeq2 PySem.MeetsSeq3 PySem.SeqRoads2
open PySem.AutoSeq1 (wpAny_loadPart')

section
variable {w : World} {A : Around} {s : Shared} {X : Value → Shared → Prop}
theorem eqB_str (x y : Str) (t u : Tok) : MeetsSeq.EqGives (.str x t) (.str y u) (x == y) := PyProof.Rows.eqGives_str x y t u

theorem one_lt1 (l b : Addr) (xs ys : Array Value) (n n2 : Nat) (dd dd2 : Option Addr) (sl sl2 : Array (Option Value)) (h1 : xs.size = 1) (h2 : ys.size = 1) :
    Meets (Builtin.«list.__eq__.loop» ⟨[.ref l, .ref b, rawInt 1, rawInt 0], []⟩)
      (fun _ R s => s.heap.get? l = some { cls := .type "list", dict := dd, data := .seq xs n, slots := sl } ∧ s.heap.get? b = some { cls := .type "list", dict := dd2, data := .seq ys n2, slots := sl2 } ∧
        R (.ok (.ret (.bool false))) s) := by
  intro prog w A R s h
  obtain ⟨hp, g, d, tk, os⟩ := s; obtain ⟨hl, hb, h⟩ := h
  wp_walk using wpAny_loadPart' hl, wpAny_loadPart' hb
  have e1 : xs[(1 : Int).toNat]? = none := by simp; omega
  have e2 : ys[(1 : Int).toNat]? = none := by simp; omega
  rw [e1, e2]
  wp_walk using wpAny_loadPart' hl, wpAny_loadPart' hb
  rw [h1, h2]
  exact h
theorem one_lt0 (l b : Addr) (xs ys : Array Value) (x y : Str) (t u : Tok) (n n2 : Nat) (dd dd2 : Option Addr) (sl sl2 : Array (Option Value)) (h1 : xs.size = 1) (h2 : ys.size = 1) (g1 : xs[(0 : Int).toNat]? = some (.str x t)) (g2 : ys[(0 : Int).toNat]? = some (.str y u)) :
    Meets (Builtin.«list.__eq__.loop» ⟨[.ref l, .ref b, rawInt 0, rawInt 0], []⟩)
      (fun _ R s => s.heap.get? l = some { cls := .type "list", dict := dd, data := .seq xs n, slots := sl } ∧ s.heap.get? b = some { cls := .type "list", dict := dd2, data := .seq ys n2, slots := sl2 } ∧
        R (.ok (.ret (.bool (if x == y then false else strLt x y)))) s) := by
  intro prog w A R s h
  obtain ⟨hp, g, d, tk, os⟩ := s; obtain ⟨hl, hb, h⟩ := h
  wp_walk using wpAny_loadPart' hl, wpAny_loadPart' hb
  rw [g1, g2]
  refine wpAny_bind (eqB_str x y t u prog w _ _ _ _ ?_)
  cases q : x == y with
  | true =>
    wp_walk
    rw [q] at h
    exact ⟨plainId_quiet plain_eq_loop _, codeAny_builtin entry_eq_loop (by
      rw [Around.under_plainId plain_eq_loop _]
      exact one_lt1 l b xs ys n n2 dd dd2 sl sl2 h1 h2 prog w A R _ ⟨hl, hb, by simpa using h⟩)⟩
  | false =>
    wp_walk using wpAny_loadPart' hl, wpAny_loadPart' hb
    rw [q] at h
    rw [g1, g2]
    refine wpAny_bind (show wpAny _ _ (compareOp .Lt (.str x t) (.str y u)) _ _ _ from PyProof.Rows.lt_str ?_)
    wp_walk
    first | exact h | simpa [strLt] using h
theorem one_lt (l b : Addr) (xs ys : Array Value) (x y : Str) (t u : Tok) (n n2 : Nat) (dd dd2 : Option Addr) (sl sl2 : Array (Option Value)) (h1 : xs.size = 1) (h2 : ys.size = 1) (g1 : xs[(0 : Int).toNat]? = some (.str x t)) (g2 : ys[(0 : Int).toNat]? = some (.str y u)) :
    Meets (Builtin.«list.__lt__» ⟨[.ref l, .ref b], []⟩)
      (fun _ R s => s.heap.get? l = some { cls := .type "list", dict := dd, data := .seq xs n, slots := sl } ∧ s.heap.get? b = some { cls := .type "list", dict := dd2, data := .seq ys n2, slots := sl2 } ∧
        R (.ok (.ret (.bool (if x == y then false else strLt x y)))) s) := by
  intro prog w A R s h
  obtain ⟨hp, g, d, tk, os⟩ := s; obtain ⟨hl, hb, h⟩ := h
  have f3 := AutoSeq1.sub_list_list
  wp_walk using wpAny_loadPart' hl, wpAny_loadPart' hb
  exact ⟨plainId_quiet plain_eq_loop _, codeAny_builtin entry_eq_loop (by
    rw [Around.under_plainId plain_eq_loop _]
    exact one_lt0 l b xs ys x y t u n n2 dd dd2 sl sl2 h1 h2 g1 g2 prog w A R _ ⟨hl, hb, h⟩)⟩
theorem lt_ones {l b : Addr} {x y : Str} {t u : Tok} {Q : Value → Shared → Prop} (hu : A.units < cLine) (hl : s.heap.IsList l #[.str x t]) (hb : s.heap.IsList b #[.str y u]) (h : Q (.bool (if x == y then false else strLt x y)) s) :
    wpAny (model PG w) A (compareOp .Lt (.ref l) (.ref b)) Q X s := by
  obtain ⟨⟨cls, dd, data, sl⟩, ho, hc, k, hd⟩ := hl
  obtain ⟨⟨cls2, dd2, data2, sl2⟩, ho2, hc2, k2, hd2⟩ := hb
  simp only at hc hd hc2 hd2
  subst hc hd hc2 hd2
  show wpAny _ _ (richCompare .Lt (.ref l) (.ref b)) Q X s
  refine wpAny_richCompare_same_room (op := .Lt) (T := "list") ⟨_, ho, rfl⟩ ⟨_, ho2, rfl⟩ PySem.F.slot_list_lt ?_ hu
  exact call_meets PySem.F.slot_list_lt ⟨_, ho, rfl⟩ PySem.F.entry_list_lt (PySem.F.args_list_lt_2 _ _) (one_lt l b _ _ x y t u k k2 dd dd2 sl sl2 rfl rfl rfl rfl) ⟨ho, ho2, (fun e => nomatch e), h⟩
theorem one_gt1 (l b : Addr) (xs ys : Array Value) (n n2 : Nat) (dd dd2 : Option Addr) (sl sl2 : Array (Option Value)) (h1 : xs.size = 1) (h2 : ys.size = 1) :
    Meets (Builtin.«list.__eq__.loop» ⟨[.ref l, .ref b, rawInt 1, rawInt 4], []⟩)
      (fun _ R s => s.heap.get? l = some { cls := .type "list", dict := dd, data := .seq xs n, slots := sl } ∧ s.heap.get? b = some { cls := .type "list", dict := dd2, data := .seq ys n2, slots := sl2 } ∧
        R (.ok (.ret (.bool false))) s) := by
  intro prog w A R s h
  obtain ⟨hp, g, d, tk, os⟩ := s; obtain ⟨hl, hb, h⟩ := h
  wp_walk using wpAny_loadPart' hl, wpAny_loadPart' hb
  have e1 : xs[(1 : Int).toNat]? = none := by simp; omega
  have e2 : ys[(1 : Int).toNat]? = none := by simp; omega
  rw [e1, e2]
  wp_walk using wpAny_loadPart' hl, wpAny_loadPart' hb
  rw [h1, h2]
  exact h
theorem one_gt0 (l b : Addr) (xs ys : Array Value) (x y : Str) (t u : Tok) (n n2 : Nat) (dd dd2 : Option Addr) (sl sl2 : Array (Option Value)) (h1 : xs.size = 1) (h2 : ys.size = 1) (g1 : xs[(0 : Int).toNat]? = some (.str x t)) (g2 : ys[(0 : Int).toNat]? = some (.str y u)) :
    Meets (Builtin.«list.__eq__.loop» ⟨[.ref l, .ref b, rawInt 0, rawInt 4], []⟩)
      (fun _ R s => s.heap.get? l = some { cls := .type "list", dict := dd, data := .seq xs n, slots := sl } ∧ s.heap.get? b = some { cls := .type "list", dict := dd2, data := .seq ys n2, slots := sl2 } ∧
        R (.ok (.ret (.bool (if x == y then false else strLt y x)))) s) := by
  intro prog w A R s h
  obtain ⟨hp, g, d, tk, os⟩ := s; obtain ⟨hl, hb, h⟩ := h
  wp_walk using wpAny_loadPart' hl, wpAny_loadPart' hb
  rw [g1, g2]
  refine wpAny_bind (eqB_str x y t u prog w _ _ _ _ ?_)
  cases q : x == y with
  | true =>
    wp_walk
    rw [q] at h
    exact ⟨plainId_quiet plain_eq_loop _, codeAny_builtin entry_eq_loop (by
      rw [Around.under_plainId plain_eq_loop _]
      exact one_gt1 l b xs ys n n2 dd dd2 sl sl2 h1 h2 prog w A R _ ⟨hl, hb, by simpa using h⟩)⟩
  | false =>
    wp_walk using wpAny_loadPart' hl, wpAny_loadPart' hb
    rw [q] at h
    rw [g1, g2]
    refine wpAny_bind (show wpAny _ _ (compareOp .Gt (.str x t) (.str y u)) _ _ _ from PySem.P.gt_str ?_)
    wp_walk
    first | exact h | simpa [strLt] using h
theorem one_gt (l b : Addr) (xs ys : Array Value) (x y : Str) (t u : Tok) (n n2 : Nat) (dd dd2 : Option Addr) (sl sl2 : Array (Option Value)) (h1 : xs.size = 1) (h2 : ys.size = 1) (g1 : xs[(0 : Int).toNat]? = some (.str x t)) (g2 : ys[(0 : Int).toNat]? = some (.str y u)) :
    Meets (Builtin.«list.__gt__» ⟨[.ref l, .ref b], []⟩)
      (fun _ R s => s.heap.get? l = some { cls := .type "list", dict := dd, data := .seq xs n, slots := sl } ∧ s.heap.get? b = some { cls := .type "list", dict := dd2, data := .seq ys n2, slots := sl2 } ∧
        R (.ok (.ret (.bool (if x == y then false else strLt y x)))) s) := by
  intro prog w A R s h
  obtain ⟨hp, g, d, tk, os⟩ := s; obtain ⟨hl, hb, h⟩ := h
  have f3 := AutoSeq1.sub_list_list
  wp_walk using wpAny_loadPart' hl, wpAny_loadPart' hb
  exact ⟨plainId_quiet plain_eq_loop _, codeAny_builtin entry_eq_loop (by
    rw [Around.under_plainId plain_eq_loop _]
    exact one_gt0 l b xs ys x y t u n n2 dd dd2 sl sl2 h1 h2 g1 g2 prog w A R _ ⟨hl, hb, h⟩)⟩
theorem gt_ones {l b : Addr} {x y : Str} {t u : Tok} {Q : Value → Shared → Prop} (hu : A.units < cLine) (hl : s.heap.IsList l #[.str x t]) (hb : s.heap.IsList b #[.str y u]) (h : Q (.bool (if x == y then false else strLt y x)) s) :
    wpAny (model PG w) A (compareOp .Gt (.ref l) (.ref b)) Q X s := by
  obtain ⟨⟨cls, dd, data, sl⟩, ho, hc, k, hd⟩ := hl
  obtain ⟨⟨cls2, dd2, data2, sl2⟩, ho2, hc2, k2, hd2⟩ := hb
  simp only at hc hd hc2 hd2
  subst hc hd hc2 hd2
  show wpAny _ _ (richCompare .Gt (.ref l) (.ref b)) Q X s
  refine wpAny_richCompare_same_room (op := .Gt) (T := "list") ⟨_, ho, rfl⟩ ⟨_, ho2, rfl⟩ PySem.F.slot_list_gt ?_ hu
  exact call_meets PySem.F.slot_list_gt ⟨_, ho, rfl⟩ PySem.F.entry_list_gt (PySem.F.args_list_gt_2 _ _) (one_gt l b _ _ x y t u k k2 dd dd2 sl sl2 rfl rfl rfl rfl) ⟨ho, ho2, (fun e => nomatch e), h⟩
theorem beq_symm (x y : Str) : (y == x) = (x == y) := by
  rw [Bool.eq_iff_iff, beq_iff_eq, beq_iff_eq]
  exact eq_comm
end

section
variable {w : World} {A : Around} {F ML M : List Addr} {Hs : HL} {n : Nat} {s : Shared} {X : Value → Shared → Prop} {a b : PV} {va vb : Value}
theorem Rd.one_inv {h : Heap} {M : List Addr} {v : Value} {x : Str} (r : Rd h M v (.list [.str x])) : ∃ a t, v = .ref a ∧ h.IsList a #[.str x t] := by
  obtain ⟨a, vs, rfl, hl, _, _, rs⟩ := r.list_inv
  obtain ⟨v, vs', e, r, rs⟩ := rs.cons_inv
  obtain ⟨t, rfl⟩ := r.str_inv
  rw [rs.nil_inv] at e
  have : vs = #[.str x t] := by rw [← Array.toArray_toList (xs := vs), e]
  subst this
  exact ⟨a, t, rfl, hl⟩

theorem lt_snd {Q : Value → Shared → Prop} {da db : PyData} {r : Bool} (I : A.units + 300 < cLine) (e : ltD da db = some r) (ra : Rd s.heap M va da) (rb : Rd s.heap M vb db) (hQ : Q (.bool r) s) :
    wpAny (model PG w) A (compareOp .Lt va vb) Q X s := by
  cases ltR e with
  | int =>
    obtain ⟨t, rfl⟩ := ra.int_inv
    obtain ⟨u, rfl⟩ := rb.int_inv
    exact PyProof.Rows.lt_int hQ
  | str =>
    obtain ⟨t, rfl⟩ := ra.str_inv
    obtain ⟨u, rfl⟩ := rb.str_inv
    exact PyProof.Rows.lt_str hQ
  | one =>
    obtain ⟨a, t, rfl, h1⟩ := ra.one_inv
    obtain ⟨b, u, rfl, h2⟩ := rb.one_inv
    exact lt_ones (Nat.lt_of_le_of_lt (Nat.le_add_right _ _) I) h1 h2 hQ
theorem gt_snd {Q : Value → Shared → Prop} {da db : PyData} {r : Bool} (I : A.units + 300 < cLine) (e : ltD db da = some r) (ra : Rd s.heap M va da) (rb : Rd s.heap M vb db) (hQ : Q (.bool r) s) :
    wpAny (model PG w) A (compareOp .Gt va vb) Q X s := by
  cases ltR e with
  | int =>
    obtain ⟨t, rfl⟩ := ra.int_inv
    obtain ⟨u, rfl⟩ := rb.int_inv
    exact PyProof.Rows.gt_int hQ
  | str =>
    obtain ⟨t, rfl⟩ := ra.str_inv
    obtain ⟨u, rfl⟩ := rb.str_inv
    exact PySem.P.gt_str hQ
  | one =>
    obtain ⟨a, t, rfl, h1⟩ := ra.one_inv
    obtain ⟨b, u, rfl, h2⟩ := rb.one_inv
    exact gt_ones (Nat.lt_of_le_of_lt (Nat.le_add_right _ _) I) h1 h2 (by rw [beq_symm] at hQ; exact hQ)
theorem eq_snd {Q : Value → Shared → Prop} {da db : PyData} {r : Bool} (I : A.units + 300 < cLine) (e : eqD da db = some r) (ra : Rd s.heap M va da) (rb : Rd s.heap M vb db) (hQ : Q (.bool r) s) :
    wpAny (model PG w) A (compareOp .Eq va vb) Q X s := by
  unfold eqD at e
  split at e
  · rename_i hz
    cases e
    rw [Bool.and_eq_true] at hz
    obtain ⟨as, ra⟩ := ra.here
    obtain ⟨bs, rb⟩ := rb.here
    exact compareEq_shaped ra rb hz.1 hz.2 (by have := I; omega) hQ
  · cases e
theorem ne_snd {Q : Value → Shared → Prop} {da db : PyData} {r : Bool} (I : A.units + 300 < cLine) (e : eqD da db = some r) (ra : Rd s.heap M va da) (rb : Rd s.heap M vb db) (hQ : Q (.bool (!r)) s) :
    wpAny (model PG w) A (compareOp .NotEq va vb) Q X s := by
  unfold eqD at e
  split at e
  · rename_i hz
    cases e
    rw [Bool.and_eq_true] at hz
    obtain ⟨as, ra⟩ := ra.here
    obtain ⟨bs, rb⟩ := rb.here
    exact compareNe_shaped ra rb hz.1 hz.2 (by have := I; omega) hQ
  · cases e
end
end
section
variable {P : Params} {w : World} {A : Around} {F ML M : List Addr} {Hs : HL} {n : Nat} {s : Shared} {X : Value → Shared → Prop} {a b : PV} {va vb : Value}

theorem RdA.mem {h : Heap} {vs : List Value} {ds : List PyData} (r : RdA h M vs ds) {y : Value} (hy : y ∈ vs) : ∃ d ∈ ds, Rd h M y d := by
  induction ds generalizing vs with
  | nil => rw [r.nil_inv] at hy; cases hy
  | cons d ds ih =>
    obtain ⟨v, vs', rfl, r1, rs⟩ := r.cons_inv
    rcases List.mem_cons.mp hy with rfl | hy
    · exact ⟨d, .head _, r1⟩
    · obtain ⟨d', m, r'⟩ := ih rs hy
      exact ⟨d', .tail _ m, r'⟩
theorem RdA.any {h : Heap} {f : Value → Bool} {g : PyData → Bool} (hfg : ∀ y d, Rd h M y d → f y = g d) : ∀ {vs : List Value} {ds : List PyData}, RdA h M vs ds → (∀ d ∈ ds, SeqAt.shaped d = true) → vs.any f = ds.any g
  | vs, [], r, _ => by rw [r.nil_inv]; rfl
  | vs, d :: ds, r, hs => by
    obtain ⟨v, vs', rfl, r1, rs⟩ := r.cons_inv
    rw [List.any_cons, List.any_cons, hfg v d r1, RdA.any hfg rs fun d' m => hs d' (.tail _ m)]
theorem Rd.uniq {h : Heap} {v : Value} {d d' : PyData} (hs : SeqAt.shaped d = true) (r : Rd h M v d) (r' : Rd h M v d') : d = d' := by
  obtain ⟨as, r⟩ := r
  obtain ⟨as', r'⟩ := r'
  exact SeqAt.Reads.unique d d' v as as' (SeqAt.canLay_of_shaped hs) r r'
open Classical in
theorem in_core {items : Array Value} {x : Value} {da : PyData} {xs : List PyData} {r : Bool} (I : A.units + 300 < cLine) (e : inD da xs = some r) (ra : Rd s.heap M x da) (rs : RdA s.heap M items.toList xs) :
    ∃ f : Value → Bool, (∀ y, y ∈ items → SeqAt.EqAt A.in1 s y x (f y)) ∧ items.any f = r := by
  obtain ⟨hz, e⟩ := ite_inv e
  obtain rfl := Option.some.inj e
  obtain ⟨h1, h2, -⟩ := and3 hz
  rw [List.all_eq_true] at h2
  have key : ∀ {y d}, d ∈ xs → Rd s.heap M y d → (decide (∃ d', d' ∈ xs ∧ Rd s.heap M y d' ∧ PyData.eqv d' da = true)) = PyData.eqv d da := fun {y d} hd r => by
    cases q : PyData.eqv d da with
    | true => exact decide_eq_true ⟨d, hd, r, q⟩
    | false => exact decide_eq_false fun ⟨d', hd', r', q'⟩ => ff (by rw [← q, r.uniq (h2 d hd) r']; exact q')
  refine ⟨fun y => decide (∃ d', d' ∈ xs ∧ Rd s.heap M y d' ∧ PyData.eqv d' da = true), fun y hy => ?_, ?_⟩
  · obtain ⟨d, hd, r⟩ := rs.mem (Array.mem_def.mp hy)
    show SeqAt.EqAt A.in1 s y x (decide _)
    rw [key hd r]
    obtain ⟨as, r⟩ := r.here
    obtain ⟨bs, rb⟩ := ra.here
    refine SeqAt.eqAt_reads d da _ s y x as bs r rb (SeqAt.canLay_of_shaped (h2 d hd)) (SeqAt.canLay_of_shaped h1) ?_
    have := SeqAt.depth_of_shaped h1
    have := I
    have := Nat.min_le_right d.depth da.depth
    show A.units + 1 + _ < _
    omega
  · rw [← Array.any_toList]
    have : ∀ {vs : List Value} {ds : List PyData}, RdA s.heap M vs ds → (∀ d ∈ ds, d ∈ xs) → vs.any (fun y => decide (∃ d', d' ∈ xs ∧ Rd s.heap M y d' ∧ PyData.eqv d' da = true)) = ds.any fun d => PyData.eqv d da := by
      intro vs ds r hin
      induction ds generalizing vs with
      | nil => rw [r.nil_inv]; rfl
      | cons d ds ih =>
        obtain ⟨v, vs', rfl, r1, rs⟩ := r.cons_inv
        rw [List.any_cons, List.any_cons, key (hin d (.head _)) r1, ih rs fun d' m => hin d' (.tail _ m)]
    exact this rs fun _ h => h

theorem listV_inv {v : Value} {pv : PV} {xs : List PyData} (e : listV pv = some xs) (r : Vr P s.heap M Hs ML v pv) : ∃ l vs, v = .ref l ∧ s.heap.IsList l vs ∧ RdA s.heap M vs.toList xs := by
  refine listV_ind (fun pv => Vr P s.heap M Hs ML v pv → ∃ l vs, v = .ref l ∧ s.heap.IsList l vs ∧ RdA s.heap M vs.toList xs) (fun r => ?_) (fun r => ?_) e r
  · obtain ⟨l, vs, rfl, hl, _, _, rs⟩ := r.rd.list_inv
    exact ⟨l, vs, rfl, hl, rs⟩
  · obtain ⟨a, vs, n, as, rfl, h2, h3, h4⟩ := r.shape
    exact ⟨a, vs, rfl, ⟨_, h3, rfl, _, rfl⟩, as, h4⟩

theorem in_snd {p : PV} {da : PyData} {xs : List PyData} {r : Bool} (I : A.units + 300 < cLine) (e1 : listV p = some xs) (e2 : inD da xs = some r) (ra : Rd s.heap M va da) (rb : Vr w.params s.heap M Hs ML vb p) :
    ∃ l vs, vb = .ref l ∧ s.heap.IsList l vs ∧ ∃ f : Value → Bool, (∀ y, y ∈ vs → SeqAt.EqAt A.in1 s y va (f y)) ∧ vs.any f = r := by
  obtain ⟨l, vs, rfl, hl, rs⟩ := listV_inv e1 rb
  exact ⟨l, vs, rfl, hl, in_core I e2 ra rs⟩
theorem cmp_dd {a b : PV} {f : PyData → PyData → Option Bool} {r : Bool} {G : Prop} (h : alt2 a.dat? b.dat? f none = some r) (ra : Vr w.params s.heap M Hs ML va a) (rb : Vr w.params s.heap M Hs ML vb b) (k : ∀ {x y}, f x y = some r → Rd s.heap M va x → Rd s.heap M vb y → G) : G :=
  alt_inv dat_inv dat_inv (fun a b => Vr w.params s.heap M Hs ML va a → Vr w.params s.heap M Hs ML vb b → G) (fun _ _ h ra rb => k h ra.rd rb.rd) none_ne h ra rb
theorem cmp_in {a b : PV} {f : PyData → List PyData → Option Bool} {r : Bool} {G : Prop} (h : alt2 a.dat? (listV b) f none = some r) (ra : Vr w.params s.heap M Hs ML va a) (k : ∀ {x xs}, listV b = some xs → f x xs = some r → Rd s.heap M va x → G) : G := by
  obtain ⟨x, xs, g1, g2, e⟩ := both_inv h
  exact k g2 e (dat_inv g1 ▸ ra).rd
theorem cmp_snd {op : CmpOp} {r : Bool} {Q : Value → Shared → Prop} (I : A.units + 300 < cLine) (e : cmpV op a b = some r) (ra : Vr w.params s.heap M Hs ML va a) (rb : Vr w.params s.heap M Hs ML vb b) (hQ : Q (.bool r) s) :
    wpAny (model PG w) A (compareOp op va vb) Q X s := by
  induction op with
  | Eq => exact cmp_dd e ra rb fun e ra rb => eq_snd I e ra rb hQ
  | NotEq =>
    refine cmp_dd e ra rb fun e ra rb => ?_
    obtain ⟨r', k, rfl⟩ := Option.map_eq_some_iff.mp e
    exact ne_snd I k ra rb hQ
  | Lt => exact cmp_dd e ra rb fun e ra rb => lt_snd I e ra rb hQ
  | Gt => exact cmp_dd e ra rb fun e ra rb => gt_snd I e ra rb hQ
  | In =>
    refine cmp_in e ra fun g2 k ra => ?_
    obtain ⟨l, vs, rfl, hl, f, h1, rfl⟩ := in_snd I g2 k ra rb
    exact SeqAt.in_listAt f hl h1 hQ
  | NotIn =>
    refine cmp_in e ra fun g2 k ra => ?_
    obtain ⟨r', k', rfl⟩ := Option.map_eq_some_iff.mp k
    obtain ⟨l, vs, rfl, hl, f, h1, rfl⟩ := in_snd I g2 k' ra rb
    exact SeqAt.notIn_listAt f hl h1 hQ
  | _ => exact none_ne e

/-- a step that may change the tokens alone -/
noncomputable abbrev TkV (w : World) (M ML : List Addr) (Hs : HL) (s : Shared) (Q : Value → Shared → Prop) (pv : PV) : Prop :=
  ∀ v tk, Vr w.params s.heap M Hs ML v pv → Q v { s with toks := tk }

theorem subscripted_plain {slice : Expr} (h : notSlice slice = true) (o i : Value) : subscripted slice false o i = operate [o, i] (getItem o i) := by
  cases slice <;> first | rfl | exact ff h

theorem RvE.find {h : Heap} {kvs : List (Str × PV)} {x : Str} {pv : PV} : ∀ {es : List DictEntry}, RvE P (Hid h M) Hs es kvs → kvs.lookup x = some pv → ∃ v, (es.find? fun e => e.key.isStrOf x) = some v ∧ Rv P (Hid h M) Hs v.val pv := by
  induction kvs with
  | nil => intro es _ e; exact none_ne e
  | cons q kvs ih =>
    intro es r e
    obtain ⟨e₀, es', t, rfl, h1, h2, r, rs⟩ := r.cons_inv
    rw [List.lookup_cons] at e
    rw [List.find?_cons, h1]
    show ∃ v, (match q.1 == x with | true => _ | false => _) = some v ∧ _
    by_cases k : x = q.1
    · rw [k, beq_self_eq_true] at e ⊢
      exact ⟨_, rfl, Option.some.inj e ▸ r⟩
    · rw [beq_false_of_ne k] at e
      rw [beq_false_of_ne (Ne.symm k)]
      exact ih rs e
theorem RvE.keys {g : Heap} {kvs : List (Str × PV)} : ∀ {es : List DictEntry}, RvE w.params g Hs es kvs → ∀ e ∈ es, ∃ k, (strKind PG w).is k e.key = true ∧ e.hash = (strKind PG w).hash k := by
  induction kvs with
  | nil => intro es r e m; rw [r.nil_inv] at m; exact nomatch m
  | cons q kvs ih =>
    intro es r e m
    obtain ⟨e₀, es', t, rfl, h1, h2, r, rs⟩ := r.cons_inv
    rcases List.mem_cons.mp m with rfl | m
    · exact ⟨_, by rw [h1]; exact strKind_is PG w _ _, h2⟩
    · exact ih rs e m

theorem idx_small {xs : List PyData} {i : Int} {d : PyData} (e : idxD xs i = some d) (hz : xs.length ≤ small) : ∃ j : Nat, seqIndex? i xs.length = some j ∧ xs[j]? = some d ∧ -(2 ^ 63) ≤ i ∧ i < 2 ^ 63 ∧ (0 ≤ i → j = i.toNat) ∧ (i < 0 → -(xs.length : Int) ≤ i ∧ j = (i + xs.length).toNat) := by
  have sm : small = 1000 := rfl
  unfold idxD at e
  split at e
  · rename_i h0
    have := (List.getElem?_eq_some_iff.mp e).1
    refine ⟨i.toNat, ?_, e, by omega, by omega, fun _ => rfl, fun h => by omega⟩
    unfold seqIndex?
    simp only [show ¬ i < 0 by omega, if_false]
    rw [if_pos]
    simp; omega
  · rename_i h0
    split at e
    · rename_i h1
      refine ⟨(i + xs.length).toNat, ?_, e, by omega, by omega, fun h => absurd h h0, fun _ => ⟨h1, rfl⟩⟩
      unfold seqIndex?
      simp only [show i < 0 by omega, if_true]
      rw [if_pos]
      have := (List.getElem?_eq_some_iff.mp e).1
      simp; omega
    · cases e
theorem sub_list {value slice : Expr} {xs : List PyData} {i : Int} {d : PyData} {Q : Value → Shared → Prop} (hn : notSlice slice = true) (hz : xs.length ≤ small) (e : idxD xs i = some d) (ra : Rd s.heap M va (.list xs)) (rb : Rd s.heap M vb (.int i)) (hQ : TkV w M ML Hs s Q (.dat d)) : wpAny (model PG w) A (subscriptTail value slice va vb) Q X s := by
  obtain ⟨l, vs, rfl, hl, _, _, rs⟩ := ra.list_inv
  obtain ⟨t, rfl⟩ := rb.int_inv
  obtain ⟨j, hj, hx, b1, b2, c1, c2⟩ := idx_small e hz
  obtain ⟨v, hv, r⟩ := rs.get hx
  have sz := rs.len
  rw [Array.length_toList] at sz
  rw [Array.getElem?_toList] at hv
  refine tail_any hl.typeIs slot_list_getitem.lookup ?_ (subscripted_plain hn _ _)
  by_cases h0 : 0 ≤ i
  · exact wpAny_getItem_list hl h0 b2 (by rw [← c1 h0]; exact hv) (hQ _ s.toks r.vr)
  · obtain ⟨d1, d2⟩ := c2 (Int.not_le.mp h0)
    exact wpAny_getItem_list_neg hl (Int.not_le.mp h0) (by rw [sz]; exact d1) b1 (by rw [sz, ← d2]; exact hv) (hQ _ s.toks r.vr)
theorem sub_tuple {value slice : Expr} {xs : List PyData} {i : Int} {d : PyData} {Q : Value → Shared → Prop} (hn : notSlice slice = true) (hz : xs.length ≤ small) (e : idxD xs i = some d) (ra : Rd s.heap M va (.tuple xs)) (rb : Rd s.heap M vb (.int i)) (hQ : TkV w M ML Hs s Q (.dat d)) : wpAny (model PG w) A (subscriptTail value slice va vb) Q X s := by
  obtain ⟨l, vs, rfl, hl, _, _, rs⟩ := ra.tup_inv
  obtain ⟨t, rfl⟩ := rb.int_inv
  obtain ⟨j, hj, hx, b1, b2, c1, c2⟩ := idx_small e hz
  obtain ⟨v, hv, r⟩ := rs.get hx
  have sz := rs.len
  rw [Array.length_toList] at sz
  rw [Array.getElem?_toList] at hv
  exact tail_any hl.typeIs slot_tuple_getitem.lookup (PyProof.Rows.getItem_tuple hl b1 b2 (by rw [sz]; exact hj) hv (hQ _ s.toks r.vr)) (subscripted_plain hn _ _)
theorem sub_str {value slice : Expr} {x y : Str} {i : Int} {Q : Value → Shared → Prop} (hn : notSlice slice = true) (e : strItem x i = some y) (ra : Rd s.heap M va (.str x)) (rb : Rd s.heap M vb (.int i)) (hQ : TkV w M ML Hs s Q (.dat (.str y))) : wpAny (model PG w) A (subscriptTail value slice va vb) Q X s := by
  obtain ⟨t, rfl⟩ := ra.str_inv
  obtain ⟨u, rfl⟩ := rb.int_inv
  obtain ⟨hz, e⟩ := ite_inv e
  obtain ⟨z1, z2, z3⟩ := and3 hz
  obtain ⟨c, e', rfl⟩ := Option.map_eq_some_iff.mp e
  have z1 := of_decide_eq_true z1
  refine tail_any (typeIs_str s x t) slot_str_getitem.lookup ?_ (subscripted_plain hn _ _)
  refine PyProof.Rows.getItem_str (c := c) (by rw [decide_eq_false (Int.not_lt.mpr (Int.le_trans (show -2 ^ 63 ≤ (0 : Int) by decide) z1)), decide_eq_false (Int.not_le.mpr (Int.lt_trans (of_decide_eq_true z3) (show (100 : Int) < 2 ^ 63 by decide)))]; rfl) ?_ (hQ _ _ (Rd.str _ _).vr)
  unfold seqIndex?
  rw [if_neg (Int.not_lt.mpr z1), if_pos (by rw [decide_eq_true z1]; exact z2)]
  exact e'
theorem sub_dct {value slice : Expr} {kvs : List (Str × PV)} {x : Str} {r : PV} {Q : Value → Shared → Prop} (hn : notSlice slice = true) (e : kvs.lookup x = some r) (ra : Vr w.params s.heap M Hs ML va (.dct kvs)) (rb : Rd s.heap M vb (.str x)) (hQ : TkV w M ML Hs s Q r) : wpAny (model PG w) A (subscriptTail value slice va vb) Q X s := by
  obtain ⟨t, rfl⟩ := rb.str_inv
  obtain ⟨dx, es, k, rfl, h1, h2⟩ := ra.shape
  obtain ⟨v, hv, r⟩ := RvE.find h2 e
  have hm : s.heap.MapOf (strKind PG w) dx (fun x => (es.toList.find? fun e => e.key.isStrOf x).map (·.val)) :=
    ⟨_, es, k, Hid.of h1, ⟨rfl, rfl, rfl⟩, rfl, fun e he => RvE.keys h2 e (Array.mem_def.mp he), fun x => by
      obtain ⟨l⟩ := es
      simp [findBy]
      rfl⟩
  exact tail_any hm.typeIs slot_dict_getitem.lookup (wpAny_getItem_of (knd := strKind PG w) (k := x) (strKind_is _ _ _ _) hm (by rw [hv]; rfl) (hQ _ _ (.inl r))) (subscripted_plain hn _ _)
theorem sub_snd {value slice : Expr} {r : PV} {Q : Value → Shared → Prop} (hn : notSlice slice = true) (e : subV a b = some r) (ra : Vr w.params s.heap M Hs ML va a) (rb : Vr w.params s.heap M Hs ML vb b) (hQ : TkV w M ML Hs s Q r) :
    wpAny (model PG w) A (subscriptTail value slice va vb) Q X s := by
  have h := subR e
  clear e
  induction h with
  | list hz k => exact sub_list hn hz k ra.rd rb.rd hQ
  | tuple hz k => exact sub_tuple hn hz k ra.rd rb.rd hQ
  | str k => exact sub_str hn k ra.rd rb.rd hQ
  | dct k => exact sub_dct hn k ra rb.rd hQ

theorem RdA.pick {h : Heap} {vs : Array Value} {ds : List PyData} (r : RdA h M vs.toList ds) : ∀ js : List Nat, RdA h M (js.filterMap (vs[·]?)) (js.filterMap (ds[·]?))
  | [] => .nil
  | j :: js => by
    have ih := RdA.pick r js
    have sz := r.len
    simp only [Array.length_toList] at sz
    rw [List.filterMap_cons, List.filterMap_cons]
    cases q : ds[j]? with
    | none =>
      have : vs[j]? = none := by
        rw [Array.getElem?_eq_none_iff, sz]
        exact List.getElem?_eq_none_iff.mp q
      rw [this]; exact ih
    | some d =>
      obtain ⟨v, hv, r1⟩ := r.get q
      rw [show vs[j]? = some v by simpa using hv]
      exact .cons r1 ih
theorem slice_new {value : Expr} {lower upper step : Option Expr} {p : Pos} {xs : List PyData} {lo hi st : Option Int} {vl vu vt : Value} {Q : Value → Shared → Prop} (m : Mt s.heap M) (hz : xs.length ≤ small) (h0 : st ≠ some 0) (ra : Rd s.heap M va (.list xs)) (pl : IsPart vl lo) (pu : IsPart vu hi) (ps : IsPart vt st)
    (hQ : ∀ D h' tk, s.heap.objs.size ≤ D → Kp s.heap h' → Rd h' M (.ref D) (.list (pickL xs lo hi st)) → Q (.ref D) { s with heap := h', toks := tk }) :
    wpAny (model PG w) A (subscriptTail value (.Slice lower upper step p) va (.ref s.heap.objs.size)) Q X { s with heap := s.heap.push { cls := .type "slice", data := .fields #[vl, vu, vt] } } := by
  obtain ⟨l, vs, rfl, hl, _, _, rs⟩ := ra.list_inv
  have sz := rs.len
  simp only [Array.length_toList] at sz
  have T : Shared.TypeIs { s with heap := s.heap.push { cls := .type "slice", data := .fields #[vl, vu, vt] } } (.ref l) "list" := (hl.push _).typeIs
  have go : ∀ ops, subscripted (.Slice lower upper step p) false (.ref l) (.ref s.heap.objs.size) = operate ops (getItem (.ref l) (.ref s.heap.objs.size)) → wpAny (model PG w) A (subscriptTail value (.Slice lower upper step p) (.ref l) (.ref s.heap.objs.size)) Q X { s with heap := s.heap.push { cls := .type "slice", data := .fields #[vl, vu, vt] } } := fun ops e => by
    refine tail_any T slot_list_getitem.lookup (wpAny_getItem_list_slice (hl.push _) (Heap.IsSliceOf.new ..) pl pu ps h0 ?_ (size_small (by omega))) e
    refine hQ _ _ _ (Nat.le_trans (Nat.le_succ _) (Nat.le_of_eq (Heap.size_push ..).symm)) ((Kp.push _ _).trans (Kp.push _ _)) ?_
    have : RdA (s.heap.push { cls := .type "slice", data := .fields #[vl, vu, vt] }) M (slicePick vs lo hi st).toList (pickL xs lo hi st) := by
      have := (rs.kp (Kp.push s.heap { cls := .type "slice", data := .fields #[vl, vu, vt] })).pick (sliceRange (sliceBounds lo hi st vs.size).1 (sliceBounds lo hi st vs.size).2.1 (sliceBounds lo hi st vs.size).2.2)
      unfold slicePick pickL
      rw [← sz]
      exact this
    have q := Rd.newList (m.kp (Kp.push s.heap { cls := .type "slice", data := .fields #[vl, vu, vt] })) this
    exact q
  induction step with
  | none => exact go [.ref s.heap.objs.size, .ref l] rfl
  | some _ => exact go [.ref l, .ref s.heap.objs.size] rfl
theorem slice_snd {value : Expr} {lower upper step : Option Expr} {p : Pos} {xs : List PyData} {lo hi st : Option Int} {vl vu vt : Value} {Q : Value → Shared → Prop} (m : Mt s.heap M) (hz : xs.length ≤ small) (h0 : st ≠ some 0) (ra : Rd s.heap M va (.list xs)) (pl : IsPart vl lo) (pu : IsPart vu hi) (ps : IsPart vt st)
    (hQ : MkV w M ML Hs s Q (.dat (.list (pickL xs lo hi st)))) :
    wpAny (model PG w) A (subscriptTail value (.Slice lower upper step p) va (.ref s.heap.objs.size)) Q X { s with heap := s.heap.push { cls := .type "slice", data := .fields #[vl, vu, vt] } } :=
  slice_new m hz h0 ra pl pu ps fun _ h' tk _ k r => hQ _ h' tk k r.vr
end
inductive All2 {α β : Type} (R : α → β → Prop) : List α → List β → Prop
  | nil : All2 R [] []
  | cons {a b l l'} : R a b → All2 R l l' → All2 R (a :: l) (b :: l')

theorem ite_t {P Q : Prop} [inst : Decidable (true = true)] (h : P) : if true = true then P else Q := by rw [if_pos rfl]; exact h
theorem ite_f {P Q : Prop} [inst : Decidable (false = true)] (h : Q) : if false = true then P else Q := by rw [if_neg Bool.false_ne_true]; exact h
noncomputable def All2Shape {α β : Type} (R : α → β → Prop) (l : List α) : List β → Prop
  | [] => l = []
  | p :: ps => ∃ u l', l = u :: l' ∧ R u p ∧ All2 R l' ps
theorem All2.shape {α β : Type} {R : α → β → Prop} {l : List α} {ps : List β} (r : All2 R l ps) : All2Shape R l ps := by
  induction r with
  | nil => exact rfl
  | cons a r => exact ⟨_, _, rfl, a, r⟩
theorem All2.nil' {α β : Type} {R : α → β → Prop} {l : List α} (r : All2 R l []) : l = [] := r.shape
theorem All2.one {α β : Type} {R : α → β → Prop} {l : List α} {p : β} (r : All2 R l [p]) : ∃ u, l = [u] ∧ R u p := by
  replace r := r.shape; obtain ⟨u, l', rfl, h, r⟩ := r
  obtain rfl := r.nil'
  exact ⟨u, rfl, h⟩
theorem All2.two {α β : Type} {R : α → β → Prop} {l : List α} {p q : β} (r : All2 R l [p, q]) : ∃ u v, l = [u, v] ∧ R u p ∧ R v q := by
  replace r := r.shape; obtain ⟨u, l', rfl, h, r⟩ := r
  obtain ⟨v, rfl, h'⟩ := r.one
  exact ⟨u, v, rfl, h, h'⟩
theorem All2.three {α β : Type} {R : α → β → Prop} {l : List α} {p q t : β} (r : All2 R l [p, q, t]) : ∃ u v w, l = [u, v, w] ∧ R u p ∧ R v q ∧ R w t := by
  replace r := r.shape; obtain ⟨u, l', rfl, h, r⟩ := r
  obtain ⟨v, w, rfl, h'⟩ := r.two
  exact ⟨u, v, w, rfl, h, h'⟩
structure Si (w : World) (A : Around) (env : Env) (sc : Scope) (F ML M : List Addr) (Hs : HL) (vs : Vars) (wd : Wd) (s : Shared) (n : Nat) : Prop where
  ek : EnvK env sc
  ai : AInv A F M s.heap n
  wi : WInv w M Hs wd s.heap
  ei : EInv w env F ML M Hs vs s.heap
  mt : Mt s.heap M
  fh : ∀ a ∈ F, a ∉ Hs.map (·.2)

noncomputable abbrev PostE (w : World) (F ML M : List Addr) (Hs : HL) (s : Shared) (Q : Value → Shared → Prop) (pv : PV) (wd' : Wd) : Prop :=
  ∀ v Hs' M' h' tk, Go [] Hs F M s.heap Hs' M' h' → WInv w M' Hs' wd' h' → Mt h' M' → Vr w.params h' M' Hs' ML v pv → Q v { s with heap := h', toks := tk }
noncomputable abbrev PostL (w : World) (F ML M : List Addr) (Hs : HL) (s : Shared) (Q : List Value → Shared → Prop) (pvs : List PV) (wd' : Wd) : Prop :=
  ∀ vs Hs' M' h' tk, Go [] Hs F M s.heap Hs' M' h' → WInv w M' Hs' wd' h' → Mt h' M' → All2 (Vr w.params h' M' Hs' ML) vs pvs → Q vs { s with heap := h', toks := tk }
noncomputable abbrev PostB (w : World) (F M : List Addr) (Hs : HL) (s : Shared) (Q : Bool → Shared → Prop) (b : Bool) (wd' : Wd) : Prop :=
  ∀ Hs' M' h' tk, Go [] Hs F M s.heap Hs' M' h' → WInv w M' Hs' wd' h' → Mt h' M' → Q b { s with heap := h', toks := tk }

noncomputable def EvS (w : World) (n : Nat) (f : Scope → Expr → Vars → Wd → PV → Wd → Prop) : Prop :=
  ∀ {A env sc F ML M Hs vs wd s e pv wd'} {Q : Value → Shared → Prop} {X}, Si w A env sc F ML M Hs vs wd s n → f sc e vs wd pv wd' → PostE w F ML M Hs s Q pv wd' → wpAny (model PG w) A (eval e env) Q X s
noncomputable def TsS (w : World) (n : Nat) (f : Scope → Expr → Vars → Wd → Bool → Wd → Prop) : Prop :=
  ∀ {A env sc F ML M Hs vs wd s e b wd'} {Q : Bool → Shared → Prop} {X}, Si w A env sc F ML M Hs vs wd s n → f sc e vs wd b wd' → PostB w F M Hs s Q b wd' → wpAny (model PG w) A (isTrue e env (eval e env)) Q X s

section
variable {w : World} {A : Around} {env : Env} {sc : Scope} {F ML M M' : List Addr} {Hs Hs' : HL} {vs : Vars} {wd wd' : Wd} {s : Shared} {n : Nat} {h' : Heap} {tk : Nat}
theorem Si.go (I : Si w A env sc F ML M Hs vs wd s n) (G : Go [] Hs F M s.heap Hs' M' h') (W : WInv w M' Hs' wd' h') (m : Mt h' M') (tk : Nat) : Si w A env sc F ML M' Hs' vs wd' { s with heap := h', toks := tk } n := by
  refine ⟨I.ek, I.ai.go G (fun _ _ x => nomatch x) I.fh, W, I.ei.go G W.hlM, m, fun a ha => ?_⟩
  obtain ⟨m, o, _, _, ho, _⟩ := I.ai.ns ha
  exact G.hlNew ho (I.fh a ha)
theorem Si.less {n' : Nat} (I : Si w A env sc F ML M Hs vs wd s n) (h : n' ≤ n) : Si w A env sc F ML M Hs vs wd s n' := ⟨I.ek, I.ai.less h, I.wi, I.ei, I.mt, I.fh⟩
theorem Si.vr (I : Si w A env sc F ML M Hs vs wd s n) (G : Go [] Hs F M s.heap Hs' M' h') {v : Value} {pv : PV} (r : Vr w.params s.heap M Hs ML v pv) : Vr w.params h' M' Hs' ML v pv :=
  r.go G I.ei.in2 I.ei.ml (fun _ x => nomatch x) (fun _ _ x => nomatch x)
theorem Si.vrs (I : Si w A env sc F ML M Hs vs wd s n) (G : Go [] Hs F M s.heap Hs' M' h') {xs : List Value} {ps : List PV} (r : All2 (Vr w.params s.heap M Hs ML) xs ps) : All2 (Vr w.params h' M' Hs' ML) xs ps := by
  induction r with
  | nil => exact .nil
  | cons r _ ih => exact .cons (I.vr G r) ih
theorem PostE.mk {Q : Value → Shared → Prop} {pv : PV} (hQ : PostE w F ML M Hs s Q pv wd') (G : Go [] Hs F M s.heap Hs' M' h') (W : WInv w M' Hs' wd' h') (m : Mt h' M') : MkV w M' ML Hs' { s with heap := h', toks := tk } Q pv :=
  fun v h'' tk k r => hQ v Hs' M' h'' tk (G.trans' (Go.kp k _ _ _ _)) (W.kp k) (m.kp k) r
theorem PostE.tks {Q : Value → Shared → Prop} {pv : PV} (hQ : PostE w F ML M Hs s Q pv wd') (G : Go [] Hs F M s.heap Hs' M' h') (W : WInv w M' Hs' wd' h') (m : Mt h' M') : TkV w M' ML Hs' { s with heap := h', toks := tk } Q pv :=
  fun v tk r => hQ v Hs' M' h' tk G W m r
theorem PostE.here {Q : Value → Shared → Prop} {pv : PV} (hQ : PostE w F ML M Hs s Q pv wd) (I : Si w A env sc F ML M Hs vs wd s n) : MkV w M ML Hs s Q pv := fun v h'' tk k r => hQ v Hs M h'' tk (Go.kp k _ _ _ _) (I.wi.kp k) (I.mt.kp k) r
/-- from a later state -/
theorem PostE.next {Q : Value → Shared → Prop} {pv : PV} {wd'' : Wd} (hQ : PostE w F ML M Hs s Q pv wd'') (G : Go [] Hs F M s.heap Hs' M' h') : PostE w F ML M' Hs' { s with heap := h', toks := tk } Q pv wd'' :=
  fun v _ _ _ tk' G' W m r => hQ v _ _ _ tk' (G.trans' G') W m r
theorem PostL.next {Q : List Value → Shared → Prop} {pvs : List PV} {wd'' : Wd} (hQ : PostL w F ML M Hs s Q pvs wd'') (G : Go [] Hs F M s.heap Hs' M' h') : PostL w F ML M' Hs' { s with heap := h', toks := tk } Q pvs wd'' :=
  fun v _ _ _ tk' G' W m r => hQ v _ _ _ tk' (G.trans' G') W m r
theorem PostB.next {Q : Bool → Shared → Prop} {b : Bool} {wd'' : Wd} (hQ : PostB w F M Hs s Q b wd'') (G : Go [] Hs F M s.heap Hs' M' h') : PostB w F M' Hs' { s with heap := h', toks := tk } Q b wd'' :=
  fun _ _ _ tk' G' W m => hQ _ _ _ tk' (G.trans' G') W m

theorem const_snd {c : Const} {k p} {pv : PV} {Q : Value → Shared → Prop} {X} (I : Si w A env sc F ML M Hs vs wd s n) (e : constV c = some pv) (hQ : PostE w F ML M Hs s Q pv wd) :
    wpAny (model PG w) A (eval (.Constant c k p) env) Q X s := by
  have q : ∀ {v d}, Rd s.heap M v d → ∀ tk, pv = .dat d → Q v { s with toks := tk } := fun r tk e => by
    subst e
    exact hQ _ Hs M s.heap tk (Go.refl _ _ _ _ _) I.wi I.mt r.vr
  induction c with
  | none => exact wpAny_Constant_none (q .none s.toks (Option.some.inj e).symm)
  | bool => exact wpAny_Constant_bool (q (.bool _) s.toks (Option.some.inj e).symm)
  | int => exact wpAny_Constant_int (q (.int _ _) _ (Option.some.inj e).symm)
  | str => exact wpAny_Constant_str (q (.str _ _) _ (Option.some.inj e).symm)
  | _ => exact none_ne e
theorem name_snd {A₀ : Around} {x : Str} {p} {pv : PV} {Q : Value → Shared → Prop} {X} (I : Si w A₀ env sc F ML M Hs vs wd s n) (ho : okName x = true) (e : vs.lookup x = some pv) (hQ : PostE w F ML M Hs s Q pv wd) :
    wpAny (model PG w) A (eval (.Name x p) env) Q X s := by
  obtain ⟨m, hn, hv⟩ := I.ei.ns
  obtain ⟨v, r, a⟩ := hv x pv e
  unfold okName at ho
  simp only [Bool.and_eq_true, bne_iff_ne, ne_eq] at ho
  have q := (PostE.here hQ I) v s.heap s.toks (Kp.refl _) r
  refine wpAny_Name ?_ (by simpa using ho.1)
  rcases a with ⟨k, a⟩ | ⟨k, c, hc, hv⟩
  · exact wpAny_loadName_local I.ek.kind k hn a q
  · rcases k with k | k
    · exact wpAny_loadName_cell I.ek.kind k hc hv q
    · exact wpAny_loadName_free I.ek.kind k hc hv q (by simpa using ho.2)
theorem star_plain {e0 : Expr} {r : List Expr} (h : notStar e0 = true) : starEach (e0 :: r) env = (false, eval e0 env) :: starEach r env := by
  cases e0 <;> first | rfl | exact ff h
theorem evs_snd {f : Scope → Expr → Vars → Wd → PV → Wd → Prop} {p : Pos} {X} (E : EvS w n f) {es : List Expr} {A M Hs wd s pvs wd'} {Q : List Value → Shared → Prop} (I : Si w A env sc F ML M Hs vs wd s n) (h : EvsOf (fun e wd => f sc e vs wd) es wd pvs wd') (hQ : PostL w F ML M Hs s Q pvs wd') :
    wpAny (model PG w) A (spliced (backTo p (starEach es env))) Q X s := by
  induction h generalizing M Hs s Q with
  | nil => exact wpAny_items_nil (hQ [] Hs M s.heap s.toks (Go.refl _ _ _ _ _) I.wi I.mt .nil)
  | cons hn q _ ih =>
    exact wpAny_items_cons (E I q fun v Hs₁ M₁ h₁ tk₁ G₁ W₁ m₁ r₁ => ih (I.go G₁ W₁ m₁ tk₁) fun xs Hs₂ M₂ h₂ tk₂ G₂ W₂ m₂ r₂ =>
      hQ _ Hs₂ M₂ h₂ tk₂ (G₁.trans' G₂) W₂ m₂ (.cons ((I.go G₁ W₁ m₁ tk₁).vr G₂ r₁) r₂)) (star_plain hn)
end
section
variable {w : World} {A : Around} {env : Env} {sc : Scope} {F ML M M' : List Addr} {Hs Hs' : HL} {vs : Vars} {wd wd' : Wd} {s : Shared} {n : Nat} {h' : Heap} {pv : PV} {Q : Value → Shared → Prop} {X : Value → Shared → Prop} {E : Ev}

theorem dats_cons {pv : PV} {pvs : List PV} {ds : List PyData} (e : dats (pv :: pvs) = some ds) : ∃ d ds', pv = .dat d ∧ dats pvs = some ds' ∧ ds = d :: ds' := by
  cases pv with
  | dat d => obtain ⟨ds', q, rfl⟩ := Option.map_eq_some_iff.mp e; exact ⟨d, ds', rfl, q, rfl⟩
  | _ => exact none_ne e
theorem dats_rd {P : Params} {h : Heap} {xs : List Value} {pvs : List PV} (r : All2 (Vr P h M Hs ML) xs pvs) : ∀ {ds : List PyData}, dats pvs = some ds → RdA h M xs ds := by
  induction r with
  | nil => intro ds e; rw [← Option.some.inj e]; exact .nil
  | cons r _ ih =>
    intro ds e
    obtain ⟨d, ds', rfl, q, rfl⟩ := dats_cons e
    exact .cons r.rd (ih q)
theorem All2.length {α β : Type} {R : α → β → Prop} {l : List α} {l' : List β} (r : All2 R l l') : l.length = l'.length := by
  induction r with
  | nil => rfl
  | cons _ _ ih => simp [ih]

theorem list_snd {es : List Expr} {p : Pos} {xs : List PV} {ds : List PyData} (hE : EvS w n E.ev) (I : Si w A env sc F ML M Hs vs wd s n) (e : EvsOf (fun e wd => E.ev sc e vs wd) es wd xs wd') (hl : xs.length ≤ small) (ed : dats xs = some ds)
    (hQ : PostE w F ML M Hs s Q (.dat (.list ds)) wd') : wpAny (model PG w) A (eval (.List es p) env) Q X s := by
  refine wpAny_List (evs_snd hE I e fun xv Hs₁ M₁ h₁ tk₁ G₁ W₁ m₁ r₁ => ⟨size_small (by rw [r₁.length]; exact hl), ?_⟩)
  exact hQ.mk G₁ W₁ m₁ _ _ tk₁ (Kp.push _ _) (Rd.newList m₁ (dats_rd r₁ ed)).vr

theorem Vr.rv {P : Params} {h : Heap} {v : Value} (r : Vr P h M Hs ML v pv) (hm : ∀ xs, pv ≠ .mut xs) : Rv P (Hid h M) Hs v pv := by
  rcases r with r | ⟨_, _, _, xs, _, e, _⟩
  · exact r
  · exact absurd e (hm xs)
theorem mkTup_vr {h : Heap} {P : Params} {xs : List Value} {pvs : List PV} (m : Mt h M) (r : All2 (Vr P h M Hs ML) xs pvs) (e : mkTup pvs = some pv) :
    Vr P (h.push { cls := .type "tuple", data := .seq xs.toArray }) M Hs ML (.ref h.objs.size) pv := by
  cases tupR e with
  | two =>
    obtain ⟨x, y, rfl, r1, r2⟩ := r.two
    exact (Rd.newTup m (.cons r1.rd (.cons r2.rd .nil))).vr
  | three =>
    obtain ⟨x, y, z, rfl, r1, r2, r3⟩ := r.three
    exact (Rd.newTup m (.cons r1.rd (.cons r2.rd (.cons r3.rd .nil)))).vr
  | hdr =>
    obtain ⟨x, y, rfl, r1, r2⟩ := r.two
    exact .inl (.two (mt_hid_push m) rfl ((r1.rv (fun _ e => nomatch e)).mono (Hid.kp (Kp.push _ _)) fun _ _ e => e) ((r2.rv (fun _ e => nomatch e)).mono (Hid.kp (Kp.push _ _)) fun _ _ e => e))
theorem mkTup_len {pvs : List PV} (e : mkTup pvs = some pv) : pvs.length ≤ small := by
  cases tupR e <;> exact Nat.le_of_ble_eq_true rfl
theorem tuple_snd {es : List Expr} {k : Nat} {p : Pos} {xs : List PV} (hE : EvS w n E.ev) (I : Si w A env sc F ML M Hs vs wd s n) (e : EvsOf (fun e wd => E.ev sc e vs wd) es wd xs wd') (ed : mkTup xs = some pv)
    (hQ : PostE w F ML M Hs s Q pv wd') : wpAny (model PG w) A (eval (.Tuple es k p) env) Q X s := by
  refine wpAny_Tuple (evs_snd hE I e fun xv Hs₁ M₁ h₁ tk₁ G₁ W₁ m₁ r₁ => ⟨size_small (by rw [r₁.length]; exact mkTup_len ed), ?_⟩)
  exact hQ.mk G₁ W₁ m₁ _ _ tk₁ (Kp.push _ _) (mkTup_vr m₁ r₁ ed)

theorem binop_case {l r : Expr} {op : Operator} {p : Pos} {a b : PV} {wd₁ : Wd} (hE : EvS w n E.ev) (I : Si w A env sc F ML M Hs vs wd s n) (e1 : E.ev sc l vs wd a wd₁) (e2 : E.ev sc r vs wd₁ b wd') (e3 : binopV op a b = some pv)
    (hQ : PostE w F ML M Hs s Q pv wd') : wpAny (model PG w) A (eval (.BinOp l op r p) env) Q X s := by
  refine wpAny_BinOp (hE I e1 fun v1 Hs₁ M₁ h₁ tk₁ G₁ W₁ m₁ r₁ => ?_)
  have I₁ := I.go G₁ W₁ m₁ tk₁
  refine hE I₁ e2 fun v2 Hs₂ M₂ h₂ tk₂ G₂ W₂ m₂ r₂ => ?_
  have I₂ := I₁.go G₂ W₂ m₂ tk₂
  exact binop_snd I₂.ai.hu m₂ e3 (I₁.vr G₂ r₁) r₂ (hQ.mk (G₁.trans' G₂) W₂ m₂)
theorem neg_case {x : Expr} {p : Pos} {i : Int} (hE : EvS w n E.ev) (I : Si w A env sc F ML M Hs vs wd s n) (e1 : E.ev sc x vs wd (.dat (.int i)) wd')
    (hQ : PostE w F ML M Hs s Q (.dat (.int (-i))) wd') : wpAny (model PG w) A (eval (.UnaryOp .USub x p) env) Q X s := by
  refine wpAny_UnaryOp (hE I e1 fun v1 Hs₁ M₁ h₁ tk₁ G₁ W₁ m₁ r₁ => ?_)
  obtain ⟨t, rfl⟩ := r₁.rd.int_inv
  exact PyProof.Rows.neg_int (hQ.tks G₁ W₁ m₁ _ _ (Rd.int _ _).vr)
theorem ifexp_case {t b o x : Expr} {p : Pos} {c : Bool} {wd₁ : Wd} (hE : EvS w n E.ev) (hT : TsS w n E.tst) (I : Si w A env sc F ML M Hs vs wd s n) (e1 : E.tst sc t vs wd c wd₁) (hx : x = if c = true then b else o) (e2 : E.ev sc x vs wd₁ pv wd')
    (hQ : PostE w F ML M Hs s Q pv wd') : wpAny (model PG w) A (eval (.IfExp t b o p) env) Q X s := by
  refine wpAny_IfExp (hT I e1 fun Hs₁ M₁ h₁ tk₁ G₁ W₁ m₁ => ?_)
  subst hx
  cases c <;> exact hE (I.go G₁ W₁ m₁ tk₁) e2 (hQ.next G₁)
theorem compare_case {l r : Expr} {op : CmpOp} {p : Pos} {a b : PV} {c : Bool} {wd₁ : Wd} (hE : EvS w n E.ev) (I : Si w A env sc F ML M Hs vs wd s n) (e1 : E.ev sc l vs wd a wd₁) (e2 : E.ev sc r vs wd₁ b wd') (hb : behindInMarks op r = false) (e3 : cmpV op a b = some c)
    (hQ : PostE w F ML M Hs s Q (.dat (.bool c)) wd') : wpAny (model PG w) A (eval (.Compare l [op] [r] p) env) Q X s := by
  refine wpAny_Compare1 (hE I e1 fun v1 Hs₁ M₁ h₁ tk₁ G₁ W₁ m₁ r₁ => ?_) hb
  have I₁ := I.go G₁ W₁ m₁ tk₁
  refine hE I₁ e2 fun v2 Hs₂ M₂ h₂ tk₂ G₂ W₂ m₂ r₂ => ?_
  have I₂ := I₁.go G₂ W₂ m₂ tk₂
  exact cmp_snd I₂.ai.hu e3 (I₁.vr G₂ r₁) r₂ (hQ.tks (tk := tk₂) (G₁.trans' G₂) W₂ m₂ _ tk₂ (Rd.bool _).vr)
theorem compare_test {l r : Expr} {op : CmpOp} {p : Pos} {a b : PV} {c : Bool} {wd₁ : Wd} {Q : Bool → Shared → Prop} {whole : Sem Value} (hE : EvS w n E.ev) (I : Si w A env sc F ML M Hs vs wd s n) (e1 : E.ev sc l vs wd a wd₁) (e2 : E.ev sc r vs wd₁ b wd') (hb : behindInMarks op r = false) (e3 : cmpV op a b = some c)
    (hQ : PostB w F M Hs s Q c wd') : wpAny (model PG w) A (isTrue (.Compare l [op] [r] p) env whole) Q X s := by
  refine wpAny_isTrue_Compare1 (hE I e1 fun v1 Hs₁ M₁ h₁ tk₁ G₁ W₁ m₁ r₁ => ?_) hb
  have I₁ := I.go G₁ W₁ m₁ tk₁
  refine hE I₁ e2 fun v2 Hs₂ M₂ h₂ tk₂ G₂ W₂ m₂ r₂ => ?_
  have I₂ := I₁.go G₂ W₂ m₂ tk₂
  exact cmp_snd I₂.ai.hu e3 (I₁.vr G₂ r₁) r₂ (wpAny_truthy_bool (hQ _ _ _ tk₂ (G₁.trans' G₂) W₂ m₂))
theorem bool_test {op : BoolOp} {Q : Bool → Shared → Prop} (hT : TsS w n E.tst) {es : List Expr} {M Hs wd s c wd'} (I : Si w A env sc F ML M Hs vs wd s n) (h : AllT (fun e wd => E.tst sc e vs wd) op es wd c wd') (hQ : PostB w F M Hs s Q c wd') :
    wpAny (model PG w) A (allTrue op es env) Q X s := by
  induction h generalizing M Hs s with
  | nil =>
    have q := hQ _ _ s.heap s.toks (Go.refl _ _ _ _ _) I.wi I.mt
    cases op
    · exact wpAny_allTrue_And_nil q
    · exact wpAny_allTrue_Or_nil q
  | stop e1 =>
    cases op
    · exact wpAny_allTrue_And_cons (hT I e1 fun Hs₁ M₁ h₁ tk₁ G₁ W₁ m₁ => hQ _ _ _ tk₁ G₁ W₁ m₁)
    · exact wpAny_allTrue_Or_cons (hT I e1 fun Hs₁ M₁ h₁ tk₁ G₁ W₁ m₁ => hQ _ _ _ tk₁ G₁ W₁ m₁)
  | go e1 _ ih =>
    cases op
    · exact wpAny_allTrue_And_cons (hT I e1 fun Hs₁ M₁ h₁ tk₁ G₁ W₁ m₁ => ih (I.go G₁ W₁ m₁ tk₁) (hQ.next G₁))
    · exact wpAny_allTrue_Or_cons (hT I e1 fun Hs₁ M₁ h₁ tk₁ G₁ W₁ m₁ => ih (I.go G₁ W₁ m₁ tk₁) (hQ.next G₁))

theorem sub_case {v i : Expr} {p : Pos} {a b : PV} {wd₁ : Wd} (hn : notSlice i = true) (hE : EvS w n E.ev) (I : Si w A env sc F ML M Hs vs wd s n) (e1 : E.ev sc v vs wd a wd₁) (e2 : E.ev sc i vs wd₁ b wd') (e3 : subV a b = some pv)
    (hQ : PostE w F ML M Hs s Q pv wd') : wpAny (model PG w) A (eval (.Subscript v i p) env) Q X s := by
  refine Subscript_ (hE I e1 fun v1 Hs₁ M₁ h₁ tk₁ G₁ W₁ m₁ r₁ => ?_)
  have I₁ := I.go G₁ W₁ m₁ tk₁
  refine hE I₁ e2 fun v2 Hs₂ M₂ h₂ tk₂ G₂ W₂ m₂ r₂ => ?_
  exact sub_snd hn e3 (I₁.vr G₂ r₁) r₂ (hQ.tks (tk := tk₂) (G₁.trans' G₂) W₂ m₂)
theorem part_snd {o : Option Expr} {k : Option Int} (hE : EvS w n E.ev) (I : Si w A env sc F ML M Hs vs wd s n) (e : POpt (fun e wd => E.ev sc e vs wd) o wd k wd')
    (hQ : ∀ v Hs' M' h' tk, Go [] Hs F M s.heap Hs' M' h' → WInv w M' Hs' wd' h' → Mt h' M' → IsPart v k → Q v { s with heap := h', toks := tk }) : wpAny (model PG w) A (evalPart o env) Q X s := by
  induction e with
  | none => exact wpAny_evalPart_none (hQ _ _ _ s.heap s.toks (Go.refl _ _ _ _ _) I.wi I.mt .none)
  | some q =>
    refine wpAny_evalPart_some (hE I q fun v Hs₁ M₁ h₁ tk₁ G₁ W₁ m₁ r₁ => ?_)
    obtain ⟨t, rfl⟩ := r₁.rd.int_inv
    exact hQ _ _ _ _ tk₁ G₁ W₁ m₁ (.int _ _)
theorem slice_case {v : Expr} {lo hi st : Option Expr} {p q : Pos} {xs : List PyData} {a b c : Option Int} {wd₁ wd₂ wd₃ : Wd} (hE : EvS w n E.ev) (I : Si w A env sc F ML M Hs vs wd s n) (e1 : E.ev sc v vs wd (.dat (.list xs)) wd₁) (e2 : POpt (fun e wd => E.ev sc e vs wd) lo wd₁ a wd₂) (e3 : POpt (fun e wd => E.ev sc e vs wd) hi wd₂ b wd₃) (e4 : POpt (fun e wd => E.ev sc e vs wd) st wd₃ c wd')
    (h0 : c ≠ some 0) (hz : xs.length ≤ small) (hQ : PostE w F ML M Hs s Q (.dat (.list (pickL xs a b c))) wd') : wpAny (model PG w) A (eval (.Subscript v (.Slice lo hi st p) q) env) Q X s := by
  refine Subscript_ (hE I e1 fun v1 Hs₁ M₁ h₁ tk₁ G₁ W₁ m₁ r₁ => ?_)
  have I₁ := I.go G₁ W₁ m₁ tk₁
  refine wpAny_Slice (part_snd hE I₁ e2 fun v2 Hs₂ M₂ h₂ tk₂ G₂ W₂ m₂ r₂ => ?_)
  have I₂ := I₁.go G₂ W₂ m₂ tk₂
  refine part_snd hE I₂ e3 fun v3 Hs₃ M₃ h₃ tk₃ G₃ W₃ m₃ r₃ => ?_
  have I₃ := I₂.go G₃ W₃ m₃ tk₃
  refine part_snd hE I₃ e4 fun v4 Hs₄ M₄ h₄ tk₄ G₄ W₄ m₄ r₄ => ?_
  have I₄ := I₃.go G₄ W₄ m₄ tk₄
  exact slice_snd (s := { s with heap := h₄, toks := tk₄ }) m₄ hz h0 (I₃.vr G₄ (I₂.vr G₃ (I₁.vr G₂ r₁))).rd r₂ r₃ r₄ (hQ.mk (tk := tk₄) (((G₁.trans' G₂).trans' G₃).trans' G₄) W₄ m₄)
end
/-- all but T as it was -/
structure Pv (T : List Addr) (h h' : Heap) : Prop where
  keep : ∀ a o, a ∉ T → h.get? a = some o → h'.get? a = some o
  size : h.objs.size ≤ h'.objs.size
theorem Pv.go {T M M' : List Addr} {h h' : Heap} (p : Pv T h h') (hm : ∀ a ∈ M, a ∈ M') (hf : ∀ a ∈ M', a ∈ M ∨ h.objs.size ≤ a) (S F Hs) (hS : ∀ a ∈ T, a ∈ S) : Go S Hs F M h Hs M' h' :=
  ⟨fun a o n _ _ e => p.keep a o (fun x => n (hS a x)) e, fun a _ n _ o e => ⟨o.slots, p.keep a o (fun x => n (hS a x)) e⟩, p.size, hm, hf, [], by simp, fun _ x => no_mem x⟩
theorem Pv.of_kp {h h' : Heap} (k : Kp h h') (T : List Addr) : Pv T h h' := ⟨fun a o _ e => k.get a o e, k.size⟩
theorem Pv.hid {T M M' : List Addr} {h h' : Heap} (p : Pv T h h') (hT : ∀ a ∈ T, a ∈ M) (hf : ∀ a ∈ M', a ∈ M ∨ h.objs.size ≤ a) : ∀ a o, (Hid h M).get? a = some o → (Hid h' M').get? a = some o := fun a o e => by
  have e' := Hid.of e
  refine Hid.get (p.keep a o (fun x => Hid.off e (hT a x)) e') fun x => ?_
  rcases hf a x with x | x
  · exact Hid.off e x
  · exact absurd (Heap.lt_size e') (Nat.not_lt.mpr x)
/-- of no account to an environment -/
structure Apart (env : Env) (F ML : List Addr) (Hs : HL) (a : Addr) : Prop where
  hl : a ∉ Hs.map (·.2)
  lc : a ≠ env.locals
  ce : ∀ x c, env.cells.lookup x = some c → a ≠ c
  ml : a ∉ ML
  fr : a ∉ F

section
variable {w : World} {A : Around} {env : Env} {sc : Scope} {F ML M M' T : List Addr} {Hs Hs' : HL} {vs : Vars} {wd wd' : Wd} {s : Shared} {n : Nat} {h' : Heap} {pv : PV} {X : Value → Shared → Prop} {E : Ev}

theorem WInv.pvt {h : Heap} (W : WInv w M Hs wd h) (p : Pv T h h') (hT : ∀ a ∈ T, a ∈ M) (hl : ∀ a ∈ T, a ∉ Hs.map (·.2)) (hm : ∀ a ∈ M, a ∈ M') (hf : ∀ a ∈ M', a ∈ M ∨ h.objs.size ≤ a) : WInv w M' Hs wd h' :=
  W.mv (p.hid hT hf) (fun q hq o e => p.keep _ o (fun x => hl _ x (List.mem_map.mpr ⟨q, hq, rfl⟩)) e) hm
theorem Si.pvt (I : Si w A env sc F ML M Hs vs wd s n) (p : Pv T s.heap h') (hT : ∀ a ∈ T, a ∈ M ∧ Apart env F ML Hs a) (hm : ∀ a ∈ M, a ∈ M') (hf : ∀ a ∈ M', a ∈ M ∨ s.heap.objs.size ≤ a) (m : Mt h' M') (tk : Nat) :
    Si w A env sc F ML M' Hs vs wd { s with heap := h', toks := tk } n := by
  have G : Go T Hs F M s.heap Hs M' h' := p.go hm hf T F Hs fun _ x => x
  have W := I.wi.pvt p (fun a x => (hT a x).1) (fun a x => (hT a x).2.hl) hm hf
  exact ⟨I.ek, I.ai.go G (fun a ha x => (hT a x).2.fr ha) I.fh, W,
    I.ei.goS G W.hlM (fun a x => (hT a x).1) (fun x => (hT _ x).2.lc rfl) (fun x c e y => (hT c y).2.ce x c e rfl) fun a ha x => (hT a x).2.ml ha, m, I.fh⟩

/-- an iterator -/
structure Itr (w : World) (A : Around) (I : Addr) (ax : List Addr) (k : Nat) (P : Nat → Value → Prop) (St : Nat → Heap → Prop) : Prop where
  W : Walks PG w A I (I :: ax) [I] k P St
  own : ∀ (target : Expr) i (s : Shared) v (Q : Unit → Shared → Prop) X, St i s.heap → Q () s → wpAny (model PG w) A (letOwnedTupleGo target (.ref I) v) Q X s
theorem own_plain {I : Addr} {o : Obj} {target : Expr} {v : Value} {Q : Unit → Shared → Prop} {nm : String} (ho : s.heap.get? I = some o) (hc : o.cls = .type nm) (hn : ["enumerate", "zip", "dict_itemiterator", "dict_reverseitemiterator", "odict_iterator", "itertools.zip_longest", "itertools.pairwise"].contains nm = false) (hQ : Q () s) :
    wpAny (model PG w) A (letOwnedTupleGo target (.ref I) v) Q X s := by
  have go : wpAny (model PG w) A (do
      let (.ref r, .ref a) := ((.ref I, v) : Value × Value) | return
      let o ← load r
      match o.cls, o.data with
      | .type n, .fields vs =>
        if ["enumerate", "zip", "dict_itemiterator", "dict_reverseitemiterator", "odict_iterator", "itertools.zip_longest", "itertools.pairwise"].contains n && vs[0]? == some (rawInt a) then
          rule "for.unpacks-the-owned-tuple"
          updateField r 0 .none
      | _, _ => pure () : Sem Unit) Q X s := by
    induction v with
    | ref a =>
      refine wpAny_bind (wpAny_load ho ?_)
      obtain ⟨c, d, data, sl⟩ := o
      simp only at hc
      subst hc
      cases data <;> first
        | exact wpAny_pure hQ
        | (dsimp only
           rw [hn, Bool.false_and, if_neg Bool.false_ne_true]
           exact wpAny_pure hQ)
    | _ => exact wpAny_pure hQ
  unfold letOwnedTupleGo
  cases target <;> first | exact wpAny_pure hQ | exact go

/-- what a walk over xs starts from -/
noncomputable abbrev PostI (w : World) (A : Around) (F M : List Addr) (Hs : HL) (s : Shared) (Q : Value → Shared → Prop) (xs : List PyData) (wd' : Wd) : Prop :=
  ∀ I ax P St Hs' M' h' tk, Go [] Hs F M s.heap Hs' M' h' → WInv w M' Hs' wd' h' → Mt h' M' → I ∈ M' → s.heap.objs.size ≤ I → I ∉ Hs'.map (·.2) → Itr w A I ax xs.length P St → St 0 h' → (∀ b ∈ ax, b ∉ M' ∧ b < h'.objs.size) →
    (∀ i v, i < xs.length → P i v → ∃ d, xs[i]? = some d ∧ Rd h' M' v d) → Q (.ref I) { s with heap := h', toks := tk }

theorem pushed (I : Si w A env sc F ML M Hs vs wd s n) (o : Obj) : Go [] Hs F M s.heap Hs (s.heap.objs.size :: M) (s.heap.push o) ∧ WInv w (s.heap.objs.size :: M) Hs wd (s.heap.push o) ∧ Mt (s.heap.push o) (s.heap.objs.size :: M) ∧ s.heap.objs.size ∉ Hs.map (·.2) := by
  have p : Pv [] s.heap (s.heap.push o) := .of_kp (Kp.push _ _) _
  have hm : ∀ a ∈ M, a ∈ s.heap.objs.size :: M := fun a x => .tail _ x
  have hf : ∀ a ∈ s.heap.objs.size :: M, a ∈ M ∨ s.heap.objs.size ≤ a := fun a x => by
    rcases List.mem_cons.mp x with rfl | x
    · exact .inr (Nat.le_refl _)
    · exact .inl x
  refine ⟨p.go hm hf _ _ _ (fun _ x => no_mem x), I.wi.pvt p (fun _ x => no_mem x) (fun _ x => no_mem x) hm hf, fun a x => ?_, fun x => ?_⟩
  · rw [Heap.size_push]
    rcases List.mem_cons.mp x with rfl | x
    · exact Nat.lt_succ_self _
    · exact Nat.lt_succ_of_lt (I.mt a x)
  · obtain ⟨p, hp, e⟩ := List.mem_map.mp x
    have := I.mt _ (I.wi.hlM p hp)
    rw [e] at this
    exact Nat.lt_irrefl _ this
theorem Rd.pushM {h : Heap} {v : Value} {d : PyData} (r : Rd h M v d) (o : Obj) : Rd (h.push o) (h.objs.size :: M) v d := by
  obtain ⟨as, r⟩ := r
  refine ⟨as, Reads.keeps (fun a ob e => Hid.get (Heap.get?_push_of_some _ (Hid.of e)) fun x => ?_) r⟩
  rcases List.mem_cons.mp x with rfl | x
  · exact absurd (Heap.lt_size (Hid.of e)) (Nat.lt_irrefl _)
  · exact Hid.off e x

theorem iter_snd {v : Value} {xs : List PyData} {Q : Value → Shared → Prop} (I : Si w A env sc F ML M Hs vs wd s n) (e : itemsV pv = some xs) (r : Vr w.params s.heap M Hs ML v pv) (hQ : PostI w A F M Hs s Q xs wd) : wpAny (model PG w) A (pyIter v) Q X s := by
  have new : ∀ {a : Addr} {o : Obj}, s.heap.get? a = some o → a ∉ M → a ∉ s.heap.objs.size :: M ∧ a ≠ s.heap.objs.size ∧ ∀ ob, a < (s.heap.push ob).objs.size := fun {a o} e n => by
    have := Heap.lt_size e
    refine ⟨fun x => ?_, Nat.ne_of_lt this, fun ob => by rw [Heap.size_push]; exact Nat.lt_succ_of_lt this⟩
    rcases List.mem_cons.mp x with rfl | x
    · exact Nat.lt_irrefl _ this
    · exact n x
  unfold itemsV at e
  split at e
  · cases e
    obtain ⟨l, vs, rfl, hl, hl', hn, rs⟩ := r.rd.list_inv
    refine wpAny_pyIter_list hl ?_
    obtain ⟨G, W, m, hd⟩ := pushed I { cls := .type "list_iterator", data := .fields #[.ref l, .int 0 0] }
    have sz := rs.len
    simp only [Array.length_toList] at sz
    obtain ⟨o, ho, _⟩ := id hl
    obtain ⟨n1, n2, n3⟩ := new ho hn
    refine hQ _ [l] _ _ _ _ _ s.toks G W m (.head _) (Nat.le_refl _) hd ⟨sz ▸ Walks.list I.ai.handled s.heap.objs.size l n2 vs, fun target i s' v Q X st hQ => ?_⟩ ⟨⟨_, Heap.get?_push_size _ rfl, rfl, rfl⟩, hl.push _⟩ (fun b hb => ?_) fun i v _ hv => ?_
    · obtain ⟨o, ho, hc, _⟩ := st.1
      exact own_plain ho hc (by decide) hQ
    · exact (List.mem_singleton.mp hb).symm ▸ ⟨n1, n3 _⟩
    · have hi := (Array.getElem?_eq_some_iff.mp hv).1
      obtain ⟨v', hv', r'⟩ := rs.get (i := i) (d := xs[i]) (by simp)
      refine ⟨xs[i], by simp, ?_⟩
      rw [Array.getElem?_toList, hv] at hv'
      cases hv'
      exact r'.pushM _
  · cases e
    obtain ⟨l, vs, rfl, hl, hl', hn, rs⟩ := r.rd.tup_inv
    have hT : s.heap.IsTuple l vs := hl
    refine wpAny_pyIter_tuple hT ?_
    obtain ⟨G, W, m, hd⟩ := pushed I { cls := .type "tuple_iterator", data := .fields #[.ref l, .int 0 0] }
    have sz := rs.len
    simp only [Array.length_toList] at sz
    obtain ⟨o, ho, _⟩ := id hl
    obtain ⟨n1, n2, n3⟩ := new ho hn
    refine hQ _ [l] _ _ _ _ _ s.toks G W m (.head _) (Nat.le_refl _) hd ⟨sz ▸ Walks.tuple I.ai.handled s.heap.objs.size l n2 vs, fun target i s' v Q X st hQ => ?_⟩ ⟨⟨_, Heap.get?_push_size _ rfl, rfl, rfl⟩, hT.push _⟩ (fun b hb => ?_) fun i v _ hv => ?_
    · obtain ⟨o, ho, hc, _⟩ := st.1
      exact own_plain ho hc (by decide) hQ
    · exact (List.mem_singleton.mp hb).symm ▸ ⟨n1, n3 _⟩
    · have hi := (Array.getElem?_eq_some_iff.mp hv).1
      obtain ⟨v', hv', r'⟩ := rs.get (i := i) (d := xs[i]) (by simp)
      refine ⟨xs[i], by simp, ?_⟩
      rw [Array.getElem?_toList, hv] at hv'
      cases hv'
      exact r'.pushM _
  · split at e
    · rename_i x ha
      cases e
      obtain ⟨t, rfl⟩ := r.rd.str_inv
      refine wpAny_pyIter_ascii ha ?_
      obtain ⟨G, W, m, hd⟩ := pushed I { cls := .type "str_ascii_iterator", data := .fields #[.str x t, .int 0 0] }
      refine hQ _ [] (SignAt x) (fun i h => h.IsStrIter s.heap.objs.size "str_ascii_iterator" x t i) _ _ _ s.toks G W m (.head _) (Nat.le_refl _) hd ⟨(by rw [List.length_map, Array.length_toList]; exact Walks.strAscii I.ai.handled s.heap.objs.size x t), fun target i s' v Q X st hQ => ?_⟩ ⟨_, Heap.get?_push_size _ rfl, rfl, rfl⟩ (fun b hb => no_mem hb) fun i v _ hv => ?_
      · obtain ⟨o, ho, hc, _⟩ := st
        exact own_plain ho hc (by decide) hQ
      · obtain ⟨c, u, hc, rfl⟩ := hv
        exact ⟨.str ⟨#[c]⟩, by simp [hc], Rd.str _ _⟩
    · cases e
  · cases e
end
section
variable {w : World} {A : Around} {env : Env} {sc : Scope} {F ML M M' T : List Addr} {Hs Hs' : HL} {vs : Vars} {wd wd' : Wd} {s : Shared} {n : Nat} {h' : Heap} {pv : PV} {Q : Value → Shared → Prop} {X : Value → Shared → Prop} {E : Ev}

theorem WInv.inK (W : WInv w M Hs wd h') : (KF w).In h' := fun a o e => Hid.of (W.kin a o e)
theorem glob_at {f : Str} {v : Value} (W : WInv w M Hs wd s.heap) (ek : EnvK env sc) (hg : globV sc f = true) (e : nsIn (KF w) mainGlobals f = some (some v)) (h : Q v s) : wpAny (model PG w) A (loadName env f) Q X s := by
  obtain ⟨mg, mb, h1, h2, h3, h4⟩ := W.tr
  have hx : env.kindOf f = some .globalImplicit := by
    rcases ek.names f .globalImplicit (by unfold globV at hg; exact eq_of_beq hg) with q | ⟨q, _⟩
    · exact q
    · cases q
  unfold loadName
  simp only [Env.blockKind, ek.kind, hx, ScopeKind.isAnnotationScope, Bool.false_and, Bool.false_eq_true, if_false]
  have h1' : s.heap.Ns mainGlobals mg := h1.keeps fun a o e => Hid.of e
  exact loadGlobal_global (by rw [ek.glob]; exact h1') (mg_of W.inK h1' e) h
theorem glob_bt {f : Str} {v : Value} (W : WInv w M Hs wd s.heap) (ek : EnvK env sc) (hg : globV sc f = true) (e : nsIn (KF w) mainGlobals f = some none) (hb : bootBuiltins f = some v) (hn : f ≠ "__name__") (h : Q v s) : wpAny (model PG w) A (loadName env f) Q X s := by
  obtain ⟨mg, mb, h1, h2, h3, h4⟩ := W.tr
  have hx : env.kindOf f = some .globalImplicit := by
    rcases ek.names f .globalImplicit (by unfold globV at hg; exact eq_of_beq hg) with q | ⟨q, _⟩
    · exact q
    · cases q
  unfold loadName
  simp only [Env.blockKind, ek.kind, hx, ScopeKind.isAnnotationScope, Bool.false_and, Bool.false_eq_true, if_false]
  have h1' : s.heap.Ns mainGlobals mg := h1.keeps fun a o e => Hid.of e
  have h2' : s.heap.Ns builtinsNs mb := h2.keeps fun a o e => Hid.of e
  exact loadGlobal_builtin (by rw [ek.glob]; exact h1') (mg_none_of W.inK h1' e) (by rw [ek.blt]; exact h2') ((h4 f hn).trans hb) h
theorem name_eval {f : Str} {p : Pos} (ho : okName f = true) (h : wpAny (model PG w) A (loadName env f) Q X s) : wpAny (model PG w) A (eval (.Name f p) env) Q X s := by
  unfold okName at ho
  simp only [Bool.and_eq_true, bne_iff_ne, ne_eq] at ho
  exact wpAny_Name h (by simpa using ho.1)

theorem plain_args {f : Expr → Wd → PV → Wd → Prop} {p : Pos} {es : List Expr} {wd xs wd'} (h : EvsOf f es wd xs wd') : (backTo p (starEach es env)).any (·.1) = false := by
  induction h with
  | nil => rfl
  | cons hn _ _ ih =>
    rw [star_plain hn]
    exact ih
theorem evalArgs_any {f : Value} {args : List (Bool × Sem Value)} {Q : Args → Shared → Prop} (h : wpAny (model PG w) A (spliced args) (fun vs s' => Q ⟨vs, []⟩ s') X s) (hp : args.any (·.1) = false) : wpAny (model PG w) A (evalArgs f true args []) Q X s := by
  induction args with
  | nil =>
    unfold evalArgs
    show wpAny _ _ (spliced [] >>= _) Q X s
    refine wpAny_bind (wpAny_mono h (fun vs s' h' => ?_) fun _ _ x => x)
    refine wpAny_holding ?_
    exact wpAny_bind (wpAny_pure (wpAny_bind (wpAny_pure (wpAny_pure h'))))
  | cons x r =>
    obtain ⟨b, t⟩ := x
    induction b with
    | false => exact evalArgs_plain h
    | true => simp at hp
noncomputable abbrev PostC (w : World) (A : Around) (F ML M : List Addr) (Hs : HL) (s : Shared) (X : Value → Shared → Prop) (Q : Value → Shared → Prop) (pvs : List PV) (wd' : Wd) (f : Value) (first : List Value) : Prop :=
  ∀ vs Hs' M' h' tk, Go [] Hs F M s.heap Hs' M' h' → WInv w M' Hs' wd' h' → Mt h' M' → All2 (Vr w.params h' M' Hs' ML) vs pvs → wpAny (model PG w) A (call f (first ++ vs)) Q X { s with heap := h', toks := tk }
theorem call_snd {f : Value} {first : List Value} {p : Pos} {args : List Expr} {xs : List PV} (hk : (∀ a, f ≠ .ref a) ∨ keepIn (KF w) f = true) (hE : EvS w n E.ev) (I : Si w A env sc F ML M Hs vs wd s n) (e : EvsOf (fun e wd => E.ev sc e vs wd) args wd xs wd')
    (h : PostC w A F ML M Hs s X Q xs wd' f first) : wpAny (model PG w) A (callWith p f first (backTo p (starEach args env)) []) Q X s := by
  have hp := plain_args (env := env) (p := p) e
  refine callWith_of (P := fun h => (KF w).In h) (by rw [hp]; rfl) (fun h X => ?_) (evalArgs_any (evs_snd hE I e fun vs Hs₁ M₁ h₁ tk₁ G₁ W₁ m₁ r₁ => ⟨W₁.inK, h vs Hs₁ M₁ h₁ tk₁ G₁ W₁ m₁ r₁⟩) hp)
  rcases hk with hk | hk
  · refine ⟨.machine, .inr (.inl rfl), Looks.of_pure ?_⟩
    cases f <;> first | rfl | exact absurd rfl (hk _)
  · exact keeps_K hk h X

theorem ns_range (w : World) : nsIn (KF w) mainGlobals (Str.ofString "range") = some none := by kernel_rfl!
theorem boot_range' : bootBuiltins (Str.ofString "range") = some (.type "range") := by decide +kernel
theorem iters_snd {e : Expr} {xs : List PyData} (hE : EvS w n E.ev) (I : Si w A env sc F ML M Hs vs wd s n) (h : ItersOf E sc vs e wd xs wd') (hQ : PostI w A F M Hs s Q xs wd') :
    wpAny (model PG w) A (eval e env) (fun x s₁ => wpAny (model PG w) A (pyIter x) Q X s₁) X s := by
  cases h with
  | range hf hg q z1 z2 =>
    rename_i f p q' a k
    have hf := eq_of_beq hf
    subst hf
    have sm : small = 1000 := rfl
    refine wpAny_Call_NameR (name_eval (by decide) (glob_bt I.wi I.ek hg (ns_range w) boot_range' (by decide) ?_))
    refine call_snd (first := []) (.inl fun _ e => nomatch e) hE I q fun xs Hs₁ M₁ h₁ tk₁ G₁ W₁ m₁ r₁ => ?_
    obtain ⟨v₁, rfl, q₁⟩ := r₁.one
    obtain ⟨t, rfl⟩ := q₁.rd.int_inv
    have I₁ := I.go G₁ W₁ m₁ tk₁
    refine call_range_1 ?_
    have k₁ := Kp.push h₁ { cls := .type "range", data := .fields #[.int 0 tk₁, .int k t, .int 1 (tk₁ + 1)] }
    have I₂ := I₁.go (Go.kp k₁ _ _ _ _) (W₁.kp k₁) (m₁.kp k₁) (tk₁ + 1 + 1)
    refine wpAny_pyIter_range (IsRange.new ..) (small_one (by decide) (by decide) (by omega) (by omega)) ?_
    have hsz : Builtin.Range.rangeSize 0 k 1 = (k.toNat : Int) := by rw [rangeSize_one]; split <;> omega
    obtain ⟨G, W, m, hd⟩ := pushed I₂ { cls := .type "range_iterator", data := .fields #[rawInt 0, rawInt (Builtin.Range.rangeSize 0 k 1), rawInt 1] }
    refine hQ _ [] (fun i v => ∃ t, v = .int (0 + i * 1) t) (fun i h => IsRangeIter h _ (0 + (i : Nat) * 1) ((k.toNat : Int) - (i : Nat)) 1) _ _ _ _ ((G₁.trans' (Go.kp k₁ _ _ _ _)).trans' G) W m (.head _) (Nat.le_trans G₁.size k₁.size) hd
      ⟨by rw [List.length_map, List.length_range]; exact Walks.range I.ai.handled _ 0 1 k.toNat, fun target i s' v Q X st hQ => own_plain st rfl (by decide) hQ⟩ ?_ (fun b hb => no_mem hb) fun i v hi hv => ?_
    · have e1 : (0 + ((0 : Nat) : Int) * 1) = 0 := by simp
      have e2 : ((k.toNat : Int) - ((0 : Nat) : Int)) = Builtin.Range.rangeSize 0 k 1 := by rw [hsz]; simp
      rw [e1, e2]
      exact Heap.get?_push_size _ rfl
    · obtain ⟨t', rfl⟩ := hv
      rw [List.length_map, List.length_range] at hi
      refine ⟨.int i, by simp [hi], ?_⟩
      have e : (0 + (i : Int) * 1) = i := by simp
      rw [e]
      exact Rd.int _ _
  | plain _ q h1 _ =>
    refine hE I q fun v Hs₁ M₁ h₁ tk₁ G₁ W₁ m₁ r₁ => ?_
    refine iter_snd (I.go G₁ W₁ m₁ tk₁) h1 r₁ fun I' ax P St Hs₂ M₂ h₂ tk₂ G₂ W₂ m₂ a1 a2 a3 a4 a5 a6 a7 => ?_
    exact hQ I' ax P St Hs₂ M₂ h₂ tk₂ (G₁.trans' G₂) W₂ m₂ a1 (Nat.le_trans G₁.size a2) a3 a4 a5 a6 a7
end
/-- where an environment keeps its own names -/
noncomputable def Own (env : Env) (sc : Scope) : List Addr := env.locals :: (sc.names.filter fun x => ownKind sc x.1).filterMap fun x => env.cells.lookup x.1
theorem mem_of_look {x : Str} {k : NameKind} : ∀ {l : List (Str × NameKind)}, l.lookup x = some k → (x, k) ∈ l
  | [], h => by cases h
  | (y, j) :: r, h => by
    rw [List.lookup_cons] at h
    by_cases q : x = y
    · subst q
      rw [show (x == x) = true by simp] at h
      cases h
      exact .head _
    · rw [show (x == y) = false by simpa using q] at h
      exact .tail _ (mem_of_look h)
theorem own_cell {env : Env} {sc : Scope} {x : Str} {c : Addr} (h : ownKind sc x = true) (hc : env.cells.lookup x = some c) : c ∈ Own env sc := by
  refine .tail _ (List.mem_filterMap.mpr ?_)
  rcases ownKind_inv h with hk | hk
  · exact ⟨(x, _), List.mem_filter.mpr ⟨mem_of_look hk, h⟩, hc⟩
  · exact ⟨(x, _), List.mem_filter.mpr ⟨mem_of_look hk, h⟩, hc⟩
theorem own_inv {env : Env} {sc : Scope} {a : Addr} (h : a ∈ Own env sc) : a = env.locals ∨ ∃ x, ownKind sc x = true ∧ env.cells.lookup x = some a := by
  rcases List.mem_cons.mp h with rfl | h
  · exact .inl rfl
  · obtain ⟨x, hx, hc⟩ := List.mem_filterMap.mp h
    exact .inr ⟨x.1, (List.mem_filter.mp hx).2, hc⟩
theorem lookup_cons' {x y : Str} {p : PV} {vs : Vars} : ((x, p) :: vs).lookup y = if y = x then some p else vs.lookup y := by
  rw [List.lookup_cons]
  by_cases q : y = x
  · subst q; simp
  · rw [show (y == x) = false by simpa using q, if_neg q]
theorem look_inv {x y : Str} {p q : PV} {vs : Vars} (e : ((x, p) :: vs).lookup y = some q) : (y = x ∧ p = q) ∨ (y ≠ x ∧ vs.lookup y = some q) := by
  rw [lookup_cons'] at e
  by_cases k : y = x
  · rw [if_pos k] at e; exact .inl ⟨k, Option.some.inj e⟩
  · rw [if_neg k] at e; exact .inr ⟨k, e⟩
theorem sb_pv {C : Addr} {h h' : Heap} (sb : Heap.SameBut C h h') : Pv [C] h h' := ⟨fun a o q e => sb.extBut a o (fun y => q (List.mem_singleton.mpr y)) e, Nat.le_of_eq sb.1.symm⟩

section
variable {w : World} {A : Around} {env : Env} {sc : Scope} {F ML M M' T : List Addr} {Hs Hs' : HL} {vs : Vars} {wd wd' : Wd} {s : Shared} {n : Nat} {h' : Heap} {pv : PV} {X : Value → Shared → Prop} {E : Ev}

/-- a store at one address: the frame's own, or a cell of it -/
theorem store_at {A₀ : Around} {x : Str} {v : Value} {a : Addr} {tk : Nat} (I : Si w A₀ env sc F ML M Hs vs wd s n) (r : Vr w.params s.heap M Hs ML v pv) (sb : Heap.SameBut a s.heap h') (hO : a ∈ Own env sc) (hM : a ∈ M) (hH : a ∉ Hs.map (·.2)) (hml : ∀ b ∈ ML, b ≠ a)
    (hns : ∀ L m, s.heap.Ns L m → ∃ m', h'.Ns L m') (hc : ∀ y c, env.cells.lookup y = some c → ∃ v, h'.IsCell c v) {m m' : Str → Option Value} (hn : s.heap.Ns env.locals m) (hn' : h'.Ns env.locals m') (hx : VarAt env h' m' x v) (ho : ∀ y v, y ≠ x → VarAt env s.heap m y v → VarAt env h' m' y v) (hv : ∀ x pv, vs.lookup x = some pv → ∃ v, Vr w.params s.heap M Hs ML v pv ∧ VarAt env s.heap m x v) :
    Pv (Own env sc) s.heap h' ∧ Go (Own env sc) Hs F M s.heap Hs M h' ∧ Si w A₀ env sc F ML M Hs ((x, pv) :: vs) wd { s with heap := h', toks := tk } n := by
  have p := sb_pv sb
  have hT : ∀ b ∈ [a], b ∈ Own env sc := one_all hO
  have hlM : ∀ b ∈ [a], b ∈ M := one_all hM
  have G1 : Go [a] Hs F M s.heap Hs M h' := p.go (fun _ x => x) (fun _ x => .inl x) _ _ _ fun _ x => x
  have mn : ∀ b ∈ ML, b ∉ [a] := fun b hb => not_one (hml b hb)
  refine ⟨⟨fun b o q e => p.keep b o (fun y => q (hT b y)) e, p.size⟩, p.go (fun _ x => x) (fun _ x => .inl x) _ _ _ hT, I.ek, I.ai.of (fun _ x => x) fun L hL => ?_, I.wi.pvt p hlM (one_all hH) (fun _ x => x) fun _ x => .inl x,
    ⟨⟨m', hn', fun y py e => ?_⟩, I.ei.locM, I.ei.locH, fun y c e => ?_, I.ei.cellOf, I.ei.inj, I.ei.ml.go G1, I.ei.mlx, I.ei.in2⟩, fun b hb => by rw [sb.1]; exact I.mt b hb, I.fh⟩
  · obtain ⟨m, q⟩ := I.ai.ns hL
    exact hns L m q
  · rcases look_inv e with ⟨rfl, rfl⟩ | ⟨q, e⟩
    · exact ⟨v, r.go G1 I.ei.in2 I.ei.ml hlM mn, hx⟩
    · obtain ⟨v', r', a'⟩ := hv y py e
      exact ⟨v', r'.go G1 I.ei.in2 I.ei.ml hlM mn, ho y v' q a'⟩
  · obtain ⟨c1, c2, c3, _⟩ := I.ei.cells y c e
    exact ⟨c1, c2, c3, hc y c e⟩
theorem own_env (K : EnvK env sc) {x : Str} (ho : ownKind sc x = true) : env.kindOf x = some .local ∨ env.kindOf x = some .cell := by
  rcases ownKind_inv ho with q | q
  · rcases K.names _ _ q with q | ⟨q, _⟩
    · exact .inl q
    · exact nomatch q
  · rcases K.names _ _ q with q | ⟨q, _⟩
    · exact .inr q
    · exact nomatch q
theorem store_snd {A₀ : Around} {x : Str} {v : Value} {Q : Unit → Shared → Prop} (I : Si w A₀ env sc F ML M Hs vs wd s n) (ho : ownKind sc x = true) (r : Vr w.params s.heap M Hs ML v pv)
    (hQ : ∀ h' tk, Pv (Own env sc) s.heap h' → Go (Own env sc) Hs F M s.heap Hs M h' → Si w A₀ env sc F ML M Hs ((x, pv) :: vs) wd { s with heap := h', toks := tk } n → Q () { s with heap := h', toks := tk }) :
    wpAny (model PG w) A (storeName env x v) Q X s := by
  obtain ⟨m, hn, hv⟩ := I.ei.ns
  rcases own_env I.ek ho with hk | hk
  · -- a local name
    have G1 : ∀ h', Heap.SameBut env.locals s.heap h' → Go [env.locals] Hs F M s.heap Hs M h' := fun h' sb => (sb_pv sb).go (fun _ x => x) (fun _ x => .inl x) _ _ _ fun _ x => x
    refine wpAny_storeName_local hk hn (fun h' hn' sb => ?_) (by rw [I.ek.kind]; rfl)
    have cell : ∀ {y c v}, env.cells.lookup y = some c → s.heap.IsCell c v → h'.IsCell c v := fun {y c v} hc e => isCell_go (G1 h' sb) e (not_one (I.ei.cells y c hc).2.2.1) (I.ei.cells y c hc).2.1
    obtain ⟨p, G, I'⟩ := store_at (tk := s.toks + 1) I r sb (.head _) I.ei.locM I.ei.locH (fun b hb => (I.ei.mlx b hb).1) (fun L m' q => if e : L = env.locals then ⟨_, e ▸ hn'⟩ else ⟨m', q.sameBut sb e⟩) (fun y c e => by
      obtain ⟨_, _, _, v', c4⟩ := I.ei.cells y c e
      exact ⟨v', cell e c4⟩) hn hn' (.inl ⟨hk, if_pos rfl⟩) (fun y v' q a' => by
      rcases a' with ⟨k, a'⟩ | ⟨k, c, hc, e'⟩
      · exact .inl ⟨k, (if_neg q).trans a'⟩
      · exact .inr ⟨k, c, hc, cell hc e'⟩) hv
    exact hQ _ _ p G I'
  · -- a cell
    obtain ⟨c, hc⟩ := I.ei.cellOf x (.inl hk)
    obtain ⟨c1, c2, c3, v₀, c4⟩ := I.ei.cells x c hc
    refine wpAny_storeName_cell I.ek.kind hk hc c4 fun h' hn' sb => ?_
    have G1 : Go [c] Hs F M s.heap Hs M h' := (sb_pv sb).go (fun _ x => x) (fun _ x => .inl x) _ _ _ fun _ x => x
    obtain ⟨p, G, I'⟩ := store_at (tk := s.toks) I r sb (own_cell ho hc) c1 c2 (fun b hb => (I.ei.mlx b hb).2 x _ hc) (fun L m' q => ⟨m', q.sameBut sb fun e => ns_not_cell (e ▸ q) c4⟩) (fun y c' e => by
      obtain ⟨d1, d2, d3, v', d4⟩ := I.ei.cells y c' e
      by_cases q : c' = c
      · exact ⟨some v, q ▸ hn'⟩
      · exact ⟨v', isCell_go G1 d4 (not_one q) d2⟩) hn (ns_go G1 hn (not_one c3.symm) I.ei.locH) (.inr ⟨.inl hk, c, hc, hn'⟩) (fun y v' q a' => by
      rcases a' with a' | ⟨k, c', hc', e'⟩
      · exact .inl a'
      · exact .inr ⟨k, c', hc', isCell_go G1 e' (not_one fun z => q (I.ei.inj y x _ hc' (z ▸ hc))) (I.ei.cells y c' hc').2.1⟩) hv
    exact hQ _ _ p G I'
end
theorem Pv.trans {T : List Addr} {h h' h'' : Heap} (p : Pv T h h') (q : Pv T h' h'') : Pv T h h'' := ⟨fun a o n e => q.keep a o n (p.keep a o n e), Nat.le_trans p.size q.size⟩
section
variable {w : World} {A : Around} {env : Env} {sc : Scope} {F ML M M' T : List Addr} {Hs Hs' : HL} {vs vs' : Vars} {wd wd' : Wd} {s : Shared} {n : Nat} {h' : Heap} {pv : PV} {X : Value → Shared → Prop} {E : Ev}

theorem Si.kp (I : Si w A env sc F ML M Hs vs wd s n) (k : Kp s.heap h') (tk : Nat) : Si w A env sc F ML M Hs vs wd { s with heap := h', toks := tk } n := I.go (Go.kp k _ _ _ _) (I.wi.kp k) (I.mt.kp k) tk
theorem Si.ext (I : Si w A env sc F ML M Hs vs wd s n) (e : ∀ x, vs'.lookup x = vs.lookup x) : Si w A env sc F ML M Hs vs' wd s n := by
  refine ⟨I.ek, I.ai, I.wi, ⟨?_, I.ei.locM, I.ei.locH, I.ei.cells, I.ei.cellOf, I.ei.inj, I.ei.ml, I.ei.mlx, I.ei.in2⟩, I.mt, I.fh⟩
  obtain ⟨m, hn, hv⟩ := I.ei.ns
  exact ⟨m, hn, fun x pv q => hv x pv (by rw [← e]; exact q)⟩
theorem kp_ext {s : Shared} {h' : Heap} (he : Heap.ExtBut s.heap.objs.size s.heap h') (hz : s.heap.objs.size ≤ h'.objs.size) : Kp s.heap h' := ⟨fun a o e => he a o (Nat.ne_of_lt (Heap.lt_size e)) e, hz⟩

theorem unpackItems_kp {t : Addr} {items : Array Value} {k : Nat} {Q : List Value → Shared → Prop} (hh : A.handled = none) (ht : IsTup s.heap t items) (hn : k = items.size) (h : ∀ h', Kp s.heap h' → Q items.toList { s with heap := h' }) : wpAny (model PG w) A (unpackItems (.ref t) k none) Q X s := by
  subst hn
  exact wpAny_sz (unpackItems_tuple hh ht fun h' he hz => h h' (kp_ext he hz))
theorem unpack_kp {elts : List Expr} {k} {pos : Pos} {t : Addr} {items : Array Value} {Q : Unit → Shared → Prop} (hh : A.handled = none) (ht : IsTup s.heap t items)
    (hn : (assignEach elts env).length = items.size) (hstar : (assignEach elts env).findIdx? (·.1) = none)
    (h : ∀ h', Kp s.heap h' → wpAny (model PG w) A (assignInOrder ((assignEach elts env).map (·.2)) items.toList) Q X { s with heap := h' }) :
    wpAny (model PG w) A (assign (.Tuple elts k pos) env (.ref t)) Q X s := by
  rw [PyProof.Rows.assign_Tuple]
  refine wpAny_bind (wpAny_standAt ?_)
  unfold unpack
  rw [hn, hstar]
  exact wpAny_bind (wpAny_holding (unpackItems_kp hh ht rfl h))

theorem Pv.go' {h : Heap} (p : Pv T h h') : Go T Hs F M h Hs M h' := p.go (fun _ x => x) (fun _ x => .inl x) _ _ _ fun _ x => x
theorem Si.vrS (I : Si w A env sc F ML M Hs vs wd s n) (p : Pv (Own env sc) s.heap h') {v : Value} (r : Vr w.params s.heap M Hs ML v pv) : Vr w.params h' M Hs ML v pv := by
  refine r.go (S := Own env sc) p.go' I.ei.in2 I.ei.ml (fun a ha => ?_) fun a ha x => ?_
  · rcases own_inv ha with rfl | ⟨x, _, hc⟩
    · exact I.ei.locM
    · exact (I.ei.cells x a hc).1
  · rcases own_inv x with rfl | ⟨x, _, hc⟩
    · exact (I.ei.mlx _ ha).1 rfl
    · exact (I.ei.mlx a ha).2 x a hc rfl

noncomputable abbrev PostA (w : World) (A : Around) (env : Env) (sc : Scope) (F ML M : List Addr) (Hs : HL) (s : Shared) (wd : Wd) (n : Nat) (Q : Unit → Shared → Prop) (vs' : Vars) : Prop :=
  ∀ h' tk, Pv (Own env sc) s.heap h' → Si w A env sc F ML M Hs vs' wd { s with heap := h', toks := tk } n → Q () { s with heap := h', toks := tk }
theorem two_stores {x y : Str} {a b : PV} {va vb : Value} {Q : Unit → Shared → Prop} (I : Si w A env sc F ML M Hs vs wd s n) (hx : ownKind sc x = true) (hy : ownKind sc y = true) (ra : Vr w.params s.heap M Hs ML va a) (rb : Vr w.params s.heap M Hs ML vb b)
    (hQ : PostA w A env sc F ML M Hs s wd n Q ((y, b) :: (x, a) :: vs)) : wpAny (model PG w) A (storeName env x va) (fun _ s₁ => wpAny (model PG w) A (storeName env y vb) Q X s₁) X s := by
  refine store_snd I hx ra fun h₁ tk₁ p₁ _ I₁ => ?_
  exact store_snd I₁ hy (I.vrS p₁ rb) fun h₂ tk₂ p₂ _ I₂ => hQ h₂ tk₂ (p₁.trans p₂) I₂
theorem two_inv {v : Value} {a b : PV} (pv : PV) (hp : pv = .two a b ∨ ∃ x y, a = .dat x ∧ b = .dat y ∧ pv = .dat (.tuple [x, y])) (r : Vr w.params s.heap M Hs ML v pv) :
    ∃ t va vb, v = .ref t ∧ IsTup s.heap t #[va, vb] ∧ Vr w.params s.heap M Hs ML va a ∧ Vr w.params s.heap M Hs ML vb b := by
  rcases hp with rfl | ⟨x, y, rfl, rfl, rfl⟩
  · obtain ⟨t, vs, k, va, vb, rfl, e1, e2, r1, r2⟩ := r.shape
    have : vs = #[va, vb] := by rw [← Array.toArray_toList (xs := vs), e2]
    subst this
    exact ⟨t, va, vb, rfl, ⟨_, Hid.of e1, rfl, _, rfl⟩, .inl r1, .inl r2⟩
  · obtain ⟨t, vs, rfl, hl, _, _, rs⟩ := r.rd.tup_inv
    obtain ⟨va, vs', e1, r1, rs⟩ := rs.cons_inv
    obtain ⟨vb, vs'', e2, r2, rs⟩ := rs.cons_inv
    have : vs = #[va, vb] := by rw [← Array.toArray_toList (xs := vs), e1, e2, rs.nil_inv]
    subst this
    exact ⟨t, va, vb, rfl, hl, r1.vr, r2.vr⟩
theorem assign_snd {t : Expr} {v : Value} {Q : Unit → Shared → Prop} (I : Si w A env sc F ML M Hs vs wd s n) (e : BindT sc t pv vs vs') (r : Vr w.params s.heap M Hs ML v pv)
    (hQ : PostA w A env sc F ML M Hs s wd n Q vs') : wpAny (model PG w) A (assign t env v) Q X s := by
  have two : ∀ {x y : Str} {p q k z} {a b : PV}, ownKind sc x = true → ownKind sc y = true → (pv = .two a b ∨ ∃ x y, a = .dat x ∧ b = .dat y ∧ pv = .dat (.tuple [x, y])) → PostA w A env sc F ML M Hs s wd n Q ((y, b) :: (x, a) :: vs) → wpAny (model PG w) A (assign (.Tuple [.Name x p, .Name y q] k z) env v) Q X s := by
    intro x y p q k z a b o1 o2 hp hQ
    obtain ⟨t, va, vb, rfl, ht, r1, r2⟩ := two_inv pv hp r
    refine unpack_kp I.ai.handled ht rfl rfl fun h₁ k₁ => ?_
    refine assignInOrder_cons (PyProof.Rows.assign_Name ?_)
    refine wpAny_mono (two_stores (Q := fun _ => Q ()) (I.kp k₁ s.toks) o1 o2 (r1.kp k₁) (r2.kp k₁) fun h₂ tk₂ p₂ I₂ => hQ h₂ tk₂ ((Pv.of_kp k₁ _).trans p₂) I₂) (fun _ s₁ h₁ => ?_) fun _ _ x => x
    exact assignInOrder_cons (PyProof.Rows.assign_Name (wpAny_mono h₁ (fun _ _ x => assignInOrder_nil x) fun _ _ x => x))
  induction e with
  | name ho _ => exact PyProof.Rows.assign_Name (store_snd I ho r fun h₁ tk₁ p₁ _ I₁ => hQ h₁ tk₁ p₁ I₁)
  | pair o1 o2 => exact two o1 o2 (.inr ⟨_, _, rfl, rfl, rfl⟩) hQ
  | two o1 o2 => exact two o1 o2 (.inl rfl) hQ
end
noncomputable def cnt (names : List (Str × NameKind)) : Nat := (names.filter fun x => x.2 == .cell).length
theorem cnt_cons (x : Str) (k : NameKind) (r) : cnt ((x, k) :: r) = (if (k == .cell) = true then cnt r + 1 else cnt r) := by
  unfold cnt
  rw [List.filter_cons]
  split <;> simp
theorem cells_look : ∀ (names : List (Str × NameKind)) (n : Nat) (acc : List (Str × Addr)) {x : Str} {c : Addr}, (cellsFrom n names acc).lookup x = some c → ((x, NameKind.cell) ∈ names ∧ n ≤ c ∧ c < n + cnt names) ∨ acc.lookup x = some c
  | [], _, _, _, _, h => .inr h
  | (y, k) :: r, n, acc, x, c, h => by
    unfold cellsFrom at h
    rw [cnt_cons]
    split at h
    · rename_i hk
      rw [if_pos hk]
      rcases cells_look r (n + 1) _ h with ⟨h1, h2, h3⟩ | h
      · exact .inl ⟨.tail _ h1, Nat.le_of_succ_le h2, by rw [Nat.add_assoc, Nat.add_comm 1] at h3; exact h3⟩
      · rw [List.lookup_cons] at h
        by_cases q : x = y
        · subst q
          rw [show (x == x) = true by simp] at h
          cases h
          rw [eq_of_beq hk]
          exact .inl ⟨.head _, Nat.le_refl _, Nat.lt_add_of_pos_right (Nat.succ_pos _)⟩
        · rw [show (x == y) = false by simpa using q] at h
          exact .inr h
    · rename_i hk
      rw [if_neg hk]
      rcases cells_look r n acc h with ⟨h1, h2, h3⟩ | h
      · exact .inl ⟨.tail _ h1, h2, h3⟩
      · exact .inr h
theorem cells_have : ∀ (names : List (Str × NameKind)) (n : Nat) (acc : List (Str × Addr)) {x : Str}, ((x, NameKind.cell) ∈ names ∨ ∃ c, acc.lookup x = some c) → ∃ c, (cellsFrom n names acc).lookup x = some c
  | [], _, _, _, h => by
    rcases h with h | h
    · cases h
    · exact h
  | (y, k) :: r, n, acc, x, h => by
    unfold cellsFrom
    split
    · refine cells_have r _ _ ?_
      by_cases q : x = y
      · subst q
        exact .inr ⟨n, by simp⟩
      · rcases h with h | ⟨c, h⟩
        · rcases List.mem_cons.mp h with h | h
          · cases h; exact absurd rfl q
          · exact .inl h
        · exact .inr ⟨c, by rw [List.lookup_cons, show (x == y) = false by simpa using q]; exact h⟩
    · rename_i hk
      refine cells_have r _ _ ?_
      rcases h with h | h
      · rcases List.mem_cons.mp h with h | h
        · cases h; exact absurd rfl hk
        · exact .inl h
      · exact .inr h
theorem cells_not : ∀ (names : List (Str × NameKind)) (n : Nat) (acc : List (Str × Addr)) {x : Str}, (x, NameKind.cell) ∉ names → (cellsFrom n names acc).lookup x = acc.lookup x
  | [], _, _, _, _ => rfl
  | (y, k) :: r, n, acc, x, h => by
    unfold cellsFrom
    split
    · rename_i hk
      rw [cells_not r _ _ fun m => h (.tail _ m), List.lookup_cons]
      by_cases q : x = y
      · subst q
        rw [eq_of_beq hk] at h
        exact absurd (.head _) h
      · rw [show (x == y) = false by simpa using q]
    · exact cells_not r _ _ fun m => h (.tail _ m)
theorem cells_inj : ∀ (names : List (Str × NameKind)) (n : Nat) (acc : List (Str × Addr)), (∀ x c, acc.lookup x = some c → c < n) → (∀ x y c, acc.lookup x = some c → acc.lookup y = some c → x = y) →
    ∀ x y c, (cellsFrom n names acc).lookup x = some c → (cellsFrom n names acc).lookup y = some c → x = y
  | [], _, _, _, h => h
  | (z, k) :: r, n, acc, hb, hi => by
    unfold cellsFrom
    split
    · refine cells_inj r _ _ (fun x c h => ?_) fun x y c h1 h2 => ?_
      · rw [List.lookup_cons] at h
        by_cases q : x = z
        · subst q
          rw [show (x == x) = true by simp] at h
          cases h
          exact Nat.lt_succ_self _
        · rw [show (x == z) = false by simpa using q] at h
          exact Nat.lt_succ_of_lt (hb _ _ h)
      · rw [List.lookup_cons] at h1 h2
        by_cases q : x = z <;> by_cases q' : y = z
        · rw [q, q']
        · subst q
          rw [show (x == x) = true by simp] at h1
          rw [show (y == x) = false by simpa using q'] at h2
          cases h1
          exact absurd (hb _ _ h2) (Nat.lt_irrefl _)
        · subst q'
          rw [show (y == y) = true by simp] at h2
          rw [show (x == y) = false by simpa using q] at h1
          cases h2
          exact absurd (hb _ _ h1) (Nat.lt_irrefl _)
        · rw [show (x == z) = false by simpa using q] at h1
          rw [show (y == z) = false by simpa using q'] at h2
          exact hi _ _ _ h1 h2
    · exact cells_inj r _ _ hb hi
theorem pushCells_size : ∀ (names : List (Str × NameKind)) (h : Heap), (pushCells h names).objs.size = h.objs.size + cnt names
  | [], h => rfl
  | (y, k) :: r, h => by
    unfold pushCells
    rw [cnt_cons]
    split
    · rename_i hk
      rw [pushCells_size r, Heap.size_push]; omega
    · rename_i hk
      rw [pushCells_size r]
theorem pushCells_cell : ∀ (names : List (Str × NameKind)) (h : Heap) (c : Nat), h.objs.size ≤ c → c < h.objs.size + cnt names → (pushCells h names).IsCell c none
  | [], h, c, h1, h2 => by simp [cnt] at h2; omega
  | (y, k) :: r, h, c, h1, h2 => by
    unfold pushCells
    rw [cnt_cons] at h2
    split
    · rename_i hk
      rw [if_pos hk] at h2
      by_cases q : c = h.objs.size
      · subst q
        have : (h.push { cls := .type "cell", data := .cell none }).IsCell h.objs.size none := ⟨_, Heap.get?_push_size _ rfl, rfl⟩
        exact this.keeps fun b o e => pushCells_keeps r _ b o e
      · exact pushCells_cell r _ c (by rw [Heap.size_push]; omega) (by rw [Heap.size_push]; omega)
    · rename_i hk
      rw [if_neg hk] at h2
      exact pushCells_cell r h c h1 h2

noncomputable def closF (env : Env) : List (Str × NameKind) → List (Str × Addr) → List (Str × Addr)
  | [], acc => acc
  | (x, k) :: r, acc => if k == .free then closF env r ((x, (env.cells.lookup x).getD 0) :: acc) else closF env r acc
theorem clos_loop {env : Env} : ∀ (names : List (Str × NameKind)) (acc : List (Str × Addr)), (∀ x, (x, NameKind.free) ∈ names → ∃ c, env.cells.lookup x = some c) →
    (forIn names acc (fun (x : Str × NameKind) (r : List (Str × Addr)) => if (x.2 == NameKind.free) = true then (do let c ← cellOf env x.1; pure (ForInStep.yield ((x.1, c) :: r))) else pure (ForInStep.yield r) : (Str × NameKind) → List (Str × Addr) → Sem (ForInStep (List (Str × Addr))))) = pure (closF env names acc)
  | [], _, _ => rfl
  | (x, k) :: r, acc, h => by
    rw [List.forIn_cons]
    unfold closF
    by_cases q : (k == NameKind.free) = true
    · simp only [q, if_true]
      obtain ⟨c, hc⟩ := h x (by rw [← eq_of_beq q]; exact .head _)
      rw [show cellOf env x = pure c by unfold cellOf; rw [hc], hc]
      exact clos_loop r _ fun y m => h y (.tail _ m)
    · simp only [q, if_false]
      exact clos_loop r _ fun y m => h y (.tail _ m)
theorem clos_eq {env : Env} {sc : Scope} (h : ∀ x, (x, NameKind.free) ∈ sc.names → ∃ c, env.cells.lookup x = some c) : closureFor sc env = pure (closF env sc.names []) := by
  have := clos_loop (env := env) sc.names [] h
  show (forIn sc.names [] _ >>= _ : Sem _) = _
  have e : (fun (x : Str × NameKind) (r : List (Str × Addr)) => (match x with
      | (name, kind) => if (kind == NameKind.free) = true then (do let c ← cellOf env name; pure (ForInStep.yield ((name, c) :: r))) else pure (ForInStep.yield r) : Sem (ForInStep (List (Str × Addr))))) =
      fun x r => if (x.2 == NameKind.free) = true then (do let c ← cellOf env x.1; pure (ForInStep.yield ((x.1, c) :: r))) else pure (ForInStep.yield r) := by
    funext x r; rfl
  exact (congrArg (· >>= fun cs => pure cs) this)
theorem clos_look {env : Env} : ∀ (names : List (Str × NameKind)) (acc : List (Str × Addr)) {x : Str} {c : Addr}, (∀ x, (x, NameKind.free) ∈ names → ∃ c, env.cells.lookup x = some c) → (closF env names acc).lookup x = some c → ((x, NameKind.free) ∈ names ∧ env.cells.lookup x = some c) ∨ acc.lookup x = some c
  | [], _, _, _, _, h => .inr h
  | (y, k) :: r, acc, x, c, hc, h => by
    unfold closF at h
    have hc' : ∀ x, (x, NameKind.free) ∈ r → ∃ c, env.cells.lookup x = some c := fun x m => hc x (.tail _ m)
    split at h
    · rename_i hk
      rcases clos_look r _ hc' h with ⟨h1, h2⟩ | h
      · exact .inl ⟨.tail _ h1, h2⟩
      · rw [List.lookup_cons] at h
        by_cases q : x = y
        · subst q
          rw [show (x == x) = true by simp] at h
          obtain ⟨c', hc'⟩ := hc x (by rw [← eq_of_beq hk]; exact .head _)
          rw [hc'] at h
          cases h
          exact .inl ⟨by rw [← eq_of_beq hk]; exact .head _, hc'⟩
        · rw [show (x == y) = false by simpa using q] at h
          exact .inr h
    · rcases clos_look r acc hc' h with ⟨h1, h2⟩ | h
      · exact .inl ⟨.tail _ h1, h2⟩
      · exact .inr h
theorem clos_have {env : Env} {x : Str} {c : Addr} (hc : env.cells.lookup x = some c) : ∀ (names : List (Str × NameKind)) (acc : List (Str × Addr)), ((x, NameKind.free) ∈ names ∨ acc.lookup x = some c) → (closF env names acc).lookup x = some c
  | [], _, h => by
    rcases h with h | h
    · cases h
    · exact h
  | (y, k) :: r, acc, h => by
    unfold closF
    split
    · refine clos_have hc r _ ?_
      by_cases q : x = y
      · subst q
        right
        rw [List.lookup_cons, show (x == x) = true by simp, hc]; rfl
      · rcases h with h | h
        · rcases List.mem_cons.mp h with h | h
          · cases h; exact absurd rfl q
          · exact .inl h
        · exact .inr (by rw [List.lookup_cons, show (x == y) = false by simpa using q]; exact h)
    · rename_i hk
      refine clos_have hc r _ ?_
      rcases h with h | h
      · rcases List.mem_cons.mp h with h | h
        · cases h; exact absurd rfl hk
        · exact .inl h
      · exact .inr h
theorem relabel_look {c : Str → NameKind → Bool} {x : Str} : ∀ {names : List (Str × NameKind)}, (names.map fun (n, k) => if c n k = true then (n, NameKind.cell) else (n, k)).lookup x = (names.lookup x).map fun k => if c x k = true then NameKind.cell else k
  | [] => rfl
  | (y, k) :: r => by
    have ih := relabel_look (c := c) (x := x) (names := r)
    rw [List.map_cons]
    show List.lookup x ((if c y k = true then (y, NameKind.cell) else (y, k)) :: _) = _
    by_cases q : x = y
    · subst q
      by_cases hc : c x k = true
      · rw [if_pos hc, List.lookup_cons, List.lookup_cons, show (x == x) = true by simp]
        simp [hc]
      · rw [if_neg hc, List.lookup_cons, List.lookup_cons, show (x == x) = true by simp]
        simp [hc]
    · by_cases hc : c y k = true
      · rw [if_pos hc, List.lookup_cons, List.lookup_cons, show (x == y) = false by simpa using q]
        exact ih
      · rw [if_neg hc, List.lookup_cons, List.lookup_cons, show (x == y) = false by simpa using q]
        exact ih
theorem seen_look {sc : Scope} {x : Str} : ∀ {vs : Vars} {pv : PV}, (seenIn sc vs).lookup x = some pv → kindIn sc x = some .free ∧ vs.lookup x = some pv
  | [], _, h => by cases h
  | (y, p) :: r, pv, h => by
    unfold seenIn at h
    rw [List.filter_cons] at h
    split at h
    · rename_i hk
      rw [lookup_cons'] at h
      rw [lookup_cons']
      split at h
      · rename_i q
        subst q
        rw [if_pos rfl]
        exact ⟨eq_of_beq hk, h⟩
      · rename_i q
        rw [if_neg q]
        exact seen_look h
    · rename_i hk
      have := seen_look (sc := sc) (vs := r) h
      rw [lookup_cons', if_neg]
      · exact this
      · intro q
        subst q
        rw [this.1] at hk
        exact hk (by simp)

theorem plain_kind {out sc : Scope} (h : plainScope out sc = true) : sc.kind = .function ∧ (∀ x k, (x, k) ∈ sc.names → kindIn sc x = some k) ∧ ∀ x, kindIn sc x = some .free → kindIn out x = some .cell ∨ kindIn out x = some .free := by
  unfold plainScope at h
  simp only [Bool.and_eq_true, List.all_eq_true, Bool.or_eq_true, beq_iff_eq, bne_iff_ne, ne_eq] at h
  obtain ⟨⟨⟨⟨h1, h2⟩, _⟩, _⟩, h3⟩ := h
  refine ⟨h2, fun x k m => h3 (x, k) m, fun x e => ?_⟩
  rcases h1 (x, .free) (mem_of_look e) with (h | h) | h
  · exact absurd rfl h
  · exact .inl h
  · exact .inr h

/-- the environment of a comprehension -/
noncomputable def cEnv (sc : Scope) (L : Addr) (env : Env) : Env := newEnv sc L env.globals (cellsFrom (L + 1) sc.names (closF env sc.names [])) env.qual none .none (some env) builtinsNs
section
variable {w : World} {A : Around} {env : Env} {sc sc' : Scope} {F ML M M' T : List Addr} {Hs Hs' : HL} {vs vs' : Vars} {wd wd' : Wd} {s : Shared} {n : Nat} {h' : Heap} {pv : PV} {X : Value → Shared → Prop} {E : Ev}

theorem clos_ok (I : Si w A env sc F ML M Hs vs wd s n) (hp : plainScope sc sc' = true) : ∀ x, (x, NameKind.free) ∈ sc'.names → ∃ c, env.cells.lookup x = some c := fun x m => by
  obtain ⟨_, h2, h3⟩ := plain_kind hp
  refine I.ei.cellOf x ?_
  rcases h3 x (h2 x _ m) with h | h
  · rcases I.ek.names _ _ h with q | ⟨q, _⟩
    · exact .inl q
    · cases q
  · rcases I.ek.names _ _ h with q | ⟨_, q⟩
    · exact .inr q
    · exact .inl q
theorem cEnv_snd {Q : Env → Shared → Prop} (I : Si w A env sc F ML M Hs vs wd s n) (hp : plainScope sc sc' = true)
    (hQ : ∀ M' h' cenv, cenv = { cEnv sc' s.heap.objs.size env with scope := relabel sc' env } → Pv [] s.heap h' → (∀ a ∈ M, a ∈ M') → (∀ a ∈ M', a ∈ M ∨ s.heap.objs.size ≤ a) → (∀ a ∈ Own cenv sc', s.heap.objs.size ≤ a) → (∀ x c, cenv.cells.lookup x = some c → s.heap.objs.size ≤ c ∨ ∃ y, env.cells.lookup y = some c) → Si w A cenv sc' F ML M' Hs (seenIn sc' vs) wd { s with heap := h' } n →
      Si w A env sc F ML M' Hs vs wd { s with heap := h' } n → Q (cEnv sc' s.heap.objs.size env) { s with heap := h' }) :
    wpAny (model PG w) A (newFunctionEnv sc' env.globals (closF env sc'.names []) [] env.qual none .none (some env)) Q X s := by
  obtain ⟨k1, k2, k3⟩ := plain_kind hp
  have hcl := clos_ok I hp
  simp only [newFunctionEnv, Option.isSome_some, if_true]
  refine wpAny_bind (wpAny_alloc ?_)
  refine wpAny_bind (wpAny_layCells _ (fun name kind cells => by cases hkc : kind == NameKind.cell <;> simp [hkc]) _ _ _ _ ?_)
  rw [show ({ s with heap := s.heap.push { cls := .type "dict", data := .dict #[] } } : Shared).heap.objs.size = s.heap.objs.size + 1 from Heap.size_push ..]
  refine wpAny_bind (wpAny_pure (wpAny_pure ?_))
  have sz := pushCells_size sc'.names (s.heap.push { cls := .type "dict", data := .dict #[] })
  rw [Heap.size_push] at sz
  have kp : Kp s.heap (pushCells (s.heap.push { cls := .type "dict", data := .dict #[] }) sc'.names) := ⟨fun a o e => pushCells_keeps _ _ a o (Heap.get?_push_of_some _ e), by rw [sz]; omega⟩
  have p : Pv [] s.heap (pushCells (s.heap.push { cls := .type "dict", data := .dict #[] }) sc'.names) := .of_kp kp _
  generalize hM' : (List.range (1 + cnt sc'.names)).map (s.heap.objs.size + ·) ++ M = M'
  have hm : ∀ a ∈ M, a ∈ M' := fun a x => hM' ▸ List.mem_append_right _ x
  have hf : ∀ a ∈ M', a ∈ M ∨ s.heap.objs.size ≤ a := fun a x => by
    rw [← hM'] at x
    rcases List.mem_append.mp x with x | x
    · obtain ⟨i, _, rfl⟩ := List.mem_map.mp x
      exact .inr (Nat.le_add_right _ _)
    · exact .inl x
  have hnew : ∀ a, s.heap.objs.size ≤ a → a < s.heap.objs.size + 1 + cnt sc'.names → a ∈ M' := fun a h1 h2 => by
    rw [← hM']
    refine List.mem_append_left _ (List.mem_map.mpr ⟨a - s.heap.objs.size, List.mem_range.mpr ?_, ?_⟩)
    · exact Nat.sub_lt_left_of_lt_add h1 (by rw [← Nat.add_assoc]; exact h2)
    · exact Nat.add_sub_cancel' h1
  have m : Mt (pushCells (s.heap.push { cls := .type "dict", data := .dict #[] }) sc'.names) M' := fun a x => by
    rw [← hM'] at x
    rw [sz]
    rcases List.mem_append.mp x with x | x
    · obtain ⟨i, hi, rfl⟩ := List.mem_map.mp x
      rw [List.mem_range] at hi
      rw [Nat.add_assoc]
      exact Nat.add_lt_add_left hi _
    · have := I.mt a x
      exact Nat.lt_of_lt_of_le this (by rw [Nat.add_assoc]; exact Nat.le_add_right _ _)
  have I' := I.pvt p (fun a x => nomatch x) hm hf m s.toks
  have hH : ∀ a, s.heap.objs.size ≤ a → a ∉ Hs.map (·.2) := fun a h x => by
    obtain ⟨q, hq, rfl⟩ := List.mem_map.mp x
    exact absurd (I.mt _ (I.wi.hlM q hq)) (Nat.not_lt.mpr h)
  have look : ∀ {x c}, (cellsFrom (s.heap.objs.size + 1) sc'.names (closF env sc'.names [])).lookup x = some c → ((x, NameKind.cell) ∈ sc'.names ∧ s.heap.objs.size + 1 ≤ c ∧ c < s.heap.objs.size + 1 + cnt sc'.names) ∨ ((x, NameKind.free) ∈ sc'.names ∧ env.cells.lookup x = some c) := fun {x c} h => by
    rcases cells_look _ _ _ h with h | h
    · exact .inl h
    · rcases clos_look _ _ hcl h with h | h
      · exact .inr h
      · cases h
  have oldc : ∀ {x c}, env.cells.lookup x = some c → c < s.heap.objs.size := fun {x c} h => I.mt c (I.ei.cells x c h).1
  have kinds : ∀ x k, kindIn sc' x = some k → (relabel sc' env).names.lookup x = some k ∨ (k = .free ∧ (relabel sc' env).names.lookup x = some .cell) := fun x k e => by
    have := relabel_look (c := fun n k => (k == .free && env.scope.kind == .function && env.kindOf n == some .cell)) (x := x) (names := sc'.names)
    have e' : sc'.names.lookup x = some k := e
    rw [e'] at this
    by_cases hc : (k == NameKind.free && env.scope.kind == .function && env.kindOf x == some .cell) = true
    · right
      refine ⟨?_, ?_⟩
      · simp only [Bool.and_eq_true, beq_iff_eq] at hc
        exact hc.1.1
      · refine Eq.trans this ?_
        simp only [Option.map_some, hc, if_true]
    · left
      refine Eq.trans this ?_
      simp only [Option.map_some, hc, if_false]
      rfl
  refine hQ M' _ _ rfl p hm hf (fun a ha => ?_) (fun x c hc => ?_) ⟨⟨k1, I.ek.glob, I.ek.blt, fun x k e => kinds x k e⟩, I'.ai, I'.wi, ⟨?_, ?_, ?_, fun x c hc => ?_, fun x hx => ?_, ?_, I'.ei.ml, fun a ha => ⟨?_, fun x c hc => ?_⟩, I'.ei.in2⟩, m, I'.fh⟩ I'
  · rcases own_inv ha with rfl | ⟨x, ho, hc⟩
    · exact Nat.le_refl _
    · rcases look hc with ⟨_, h, _⟩ | ⟨h, _⟩
      · exact Nat.le_of_succ_le h
      · unfold ownKind at ho
        rw [k2 _ _ h] at ho
        cases ho
  · rcases look hc with ⟨_, h, _⟩ | ⟨_, h⟩
    · exact .inl (Nat.le_of_succ_le h)
    · exact .inr ⟨x, h⟩
  · refine ⟨fun _ => none, (Heap.Ns.new s.heap (.type "dict")).keeps (pushCells_keeps _ _), fun x pv e => ?_⟩
    obtain ⟨hk, e⟩ := seen_look e
    obtain ⟨mm, hn, hv⟩ := I.ei.ns
    obtain ⟨v, r, a⟩ := hv x pv e
    refine ⟨v, I.vr (p.go hm hf _ _ _ fun _ x => nomatch x) r, .inr ⟨?_, ?_⟩⟩
    · rcases kinds x _ hk with q | ⟨_, q⟩
      · exact .inr q
      · exact .inl q
    · have hno : (x, NameKind.cell) ∉ sc'.names := fun q => by
        rw [k2 _ _ q] at hk; cases hk
      rcases a with ⟨k, _⟩ | ⟨_, c, hc, he⟩
      · exfalso
        rcases k3 x hk with h | h
        · rcases I.ek.names _ _ h with q | ⟨q, _⟩
          · rw [k] at q; cases q
          · cases q
        · rcases I.ek.names _ _ h with q | ⟨_, q⟩
          · rw [k] at q; cases q
          · rw [k] at q; cases q
      · refine ⟨c, ?_, he.keeps kp.get⟩
        show (cellsFrom (s.heap.objs.size + 1) sc'.names (closF env sc'.names [])).lookup x = some c
        rw [cells_not _ _ _ hno]
        exact clos_have hc _ _ (.inl (mem_of_look hk))
  · exact hnew _ (Nat.le_refl _) (by rw [Nat.add_assoc]; exact Nat.lt_add_of_pos_right (by omega))
  · exact hH _ (Nat.le_refl _)
  · rcases look hc with ⟨_, h1, h2⟩ | ⟨_, h⟩
    · refine ⟨hnew _ (Nat.le_of_succ_le h1) h2, hH _ (Nat.le_of_succ_le h1), fun e => ?_, none, pushCells_cell _ _ _ (by rw [Heap.size_push]; exact h1) (by rw [Heap.size_push]; exact h2)⟩
      rw [e] at h1
      exact absurd h1 (Nat.not_succ_le_self _)
    · obtain ⟨c1, c2, c3, v, c4⟩ := I.ei.cells x c h
      exact ⟨hm _ c1, c2, Nat.ne_of_lt (oldc h), v, c4.keeps kp.get⟩
  · have hx' : ∃ k, kindIn sc' x = some k ∧ (k = .cell ∨ k = .free) := by
      cases q : kindIn sc' x with
      | none =>
        have := relabel_look (c := fun n k => (k == .free && env.scope.kind == .function && env.kindOf n == some .cell)) (x := x) (names := sc'.names)
        rw [show sc'.names.lookup x = none from q] at this
        have this : (relabel sc' env).names.lookup x = none := this
        rcases hx with h | h
        · have h : (relabel sc' env).names.lookup x = _ := h
          rw [this] at h; cases h
        · have h : (relabel sc' env).names.lookup x = _ := h
          rw [this] at h; cases h
      | some k =>
        refine ⟨k, rfl, ?_⟩
        rcases kinds x k q with h | ⟨h, _⟩
        · rcases hx with h' | h'
          · have h' : (relabel sc' env).names.lookup x = _ := h'
            rw [h] at h'; cases h'; exact .inl rfl
          · have h' : (relabel sc' env).names.lookup x = _ := h'
            rw [h] at h'; cases h'; exact .inr rfl
        · exact .inr h
    obtain ⟨k, e, h | h⟩ := hx'
    · subst h
      exact cells_have _ _ _ (.inl (mem_of_look e))
    · subst h
      obtain ⟨c, hc⟩ := hcl x (mem_of_look e)
      exact cells_have _ _ _ (.inr ⟨c, clos_have hc _ _ (.inl (mem_of_look e))⟩)
  · refine cells_inj _ _ _ (fun x c h => ?_) fun x y c h1 h2 => ?_
    · rcases clos_look _ _ hcl h with ⟨_, h⟩ | h
      · exact Nat.lt_succ_of_lt (oldc h)
      · cases h
    · rcases clos_look _ _ hcl h1 with ⟨_, h1⟩ | h1
      · rcases clos_look _ _ hcl h2 with ⟨_, h2⟩ | h2
        · exact I.ei.inj _ _ _ h1 h2
        · cases h2
      · cases h1
  · exact Nat.ne_of_lt (I.ei.ml.there a ha)
  · rcases look hc with ⟨_, h1, h2⟩ | ⟨_, h⟩
    · intro e
      have := I.ei.ml.there a ha
      rw [e] at this
      exact absurd (Nat.lt_of_succ_le h1) (Nat.lt_asymm this)
    · exact (I.ei.mlx a ha).2 x c h
end
/-- the tests of a clause -/
noncomputable abbrev testsOf (ifs : List Expr) (env : Env) : Sem Bool := forIn ifs true fun c r => if r = true then do let ok ← isTrue c env (eval c env); pure (ForInStep.yield ok) else pure (ForInStep.yield r)
/-- what a clause does with an item that its tests let pass -/
noncomputable def InnerW (w : World) (A : Around) (elt : Expr) (gens : List Comprehension) (scope : Scope) (pos : Pos) (d : Nat) (acc : Value) (env : Env) (Q : Unit → Shared → Prop) (X : Value → Shared → Prop) (s : Shared) : Prop := match gens[d + 1]? with
  | some g' => wpAny (model PG w) A (eval g'.iter env) (fun x s₁ => wpAny (model PG w) A (foldedSetIterable g'.iter env x) (fun x s₂ => wpAny (model PG w) A (pyIter x) (fun it s₃ =>
      wpAny (model PG w) A (runOwn (.compStart (.ListComp elt gens scope pos) (d + 1) it acc env) env) (fun _ s₄ => Q () s₄) X s₃) X s₂) X s₁) X s
  | none => wpAny (model PG w) A (eval elt env) (fun x s₁ => wpAny (model PG w) A (call (.builtin "list.append") [acc, x]) (fun _ s₂ => Q () s₂) X s₁) X s
noncomputable def innerD (k v : Expr) (acc : Value) (env : Env) : Sem Unit := do
  let kv ← eval k env
  let vv ← holding [kv] (eval v env)
  match acc with
  | .ref d => do
    standAt { k.pos with endLine := v.pos.endLine, endCol := v.pos.endCol }
    holding [kv, vv] (dictSet d kv vv)
  | _ => unsupported "internal:dictcomp"

section
variable {w : World} {A : Around} {R : Result → Shared → Prop} {s : Shared}
noncomputable abbrev Nt (w : World) (A : Around) (env : Env) (R : Result → Shared → Prop) : Value → Shared → Prop := notedBy (model PG w) A env fun e s' => R (.error e) s'

theorem compStart_L {elt : Expr} {gens : List Comprehension} {scope : Scope} {pos : Pos} {d : Nat} {t i : Expr} {fs : List Expr} {it acc : Value} {env : Env} (hg : gens[d]? = some ⟨t, i, fs, 0⟩)
    (h0 : codeAny (model PG w) A (.compLoop (.ListComp elt gens scope pos) d it acc env) R s)
    (h : wpAny (model PG w) A (pyIter it) (fun it' s' => codeAny (model PG w) A (.compLoop (.ListComp elt gens scope pos) d it' acc env) R s') (Nt w A env R) s) :
    codeAny (model PG w) A (.compStart (.ListComp elt gens scope pos) d it acc env) R s := by
  refine codeAny_of_tree ?_
  show wpAny _ A ((compStart (.ListComp elt gens scope pos) d it acc env).onRaise (fun x => do noteFrame x env; standAt theWindowsPlace)) _ _ s
  refine wpAny_notedAt ?_
  unfold compStart
  show wpAny _ _ (if (gens[d]?).elim false (·.is_async != 0) = true then _ else _) _ _ s
  rw [hg]
  show wpAny _ _ (ask >>= _) _ _ s
  refine wpAny_bind (wpAny_askSetting (wpAny_ite ?_))
  split
  · first
      | exact wpAny_bind (wpAny_pure (wpAny_pure (And.intro rfl h0)))
      | exact wpAny_pure (And.intro rfl h0)
  · refine wpAny_bind (wpAny_rule ?_)
    dsimp only [clausesOf]
    rw [hg]
    exact wpAny_bind (wpAny_standAt (wpAny_bind (wpAny_mono h (fun it' s' h' => wpAny_pure (And.intro rfl h')) fun _ _ x => x)))
theorem compLoop_L {elt : Expr} {gens : List Comprehension} {scope : Scope} {pos : Pos} {d : Nat} {t i : Expr} {fs : List Expr} {it acc : Value} {env : Env} (hg : gens[d]? = some ⟨t, i, fs, 0⟩) (hn : ∀ g', gens[d + 1]? = some g' → g'.is_async = 0) (I : Nat → Shared → Prop)
    (turn : ∀ n s, I n s → wpAny (model PG w) A (pyNext it) (fun r s₁ => match r with
      | none => R (.ok .next) s₁
      | some v => wpAny (model PG w) A (letOwnedTupleGo t it v) (fun _ s₁' => wpAny (model PG w) A (assign t env v) (fun _ s₂ =>
          wpAny (model PG w) A (testsOf fs env) (fun ok s₃ =>
            if ok = true then InnerW w A elt gens scope pos d acc env (fun _ s₄ => ∃ m, m < n ∧ I m s₄) (Nt w A env R) s₃
            else ∃ m, m < n ∧ I m s₃) (Nt w A env R) s₂) (Nt w A env R) s₁') (Nt w A env R) s₁) (Nt w A env R) s)
    (n : Nat) (h : I n s) : codeAny (model PG w) A (.compLoop (.ListComp elt gens scope pos) d it acc env) R s := by
  refine codeAny_loop rfl I (fun n s hI => ?_) n h
  show wpAny _ A ((compTurn (.ListComp elt gens scope pos) d it acc env).onRaise (fun x => do noteFrame x env; theTreesLotGoes x)) _ _ s
  refine wpAny_noted ?_
  unfold compTurn
  dsimp only
  rw [hg]
  cases q : gens[d + 1]? with
  | none =>
    refine wpAny_bind (wpAny_standAt (wpAny_bind (wpAny_mono (turn n s hI) (fun r s₁ h₁ => ?_) fun _ _ h' => h')))
    induction r with
    | none => exact wpAny_pure h₁
    | some v =>
      refine wpAny_bind (wpAny_mono h₁ (fun _ s₁' h₁' => ?_) fun _ _ h' => h')
      refine wpAny_bind (wpAny_mono h₁' (fun _ s₂ h₂ => wpAny_bind (wpAny_mono h₂ (fun ok s₃ h₃ => ?_) fun _ _ h' => h')) fun _ _ h' => h')
      induction ok with
      | false => exact wpAny_pure ⟨rfl, h₃⟩
      | true =>
        simp only [if_true] at h₃
        unfold InnerW at h₃
        rw [q] at h₃
        exact wpAny_bind (wpAny_bind (wpAny_mono h₃ (fun x s₄ h₄ => wpAny_bind (wpAny_mono h₄ (fun _ s₅ h₅ => wpAny_pure (wpAny_pure ⟨rfl, h₅⟩)) fun _ _ h' => h')) fun _ _ h' => h'))
  | some g' =>
    obtain ⟨t', i', f', a'⟩ := g'
    have := hn _ q
    simp only at this
    subst this
    refine wpAny_bind (wpAny_standAt (wpAny_bind (wpAny_mono (turn n s hI) (fun r s₁ h₁ => ?_) fun _ _ h' => h')))
    induction r with
    | none => exact wpAny_pure h₁
    | some v =>
      refine wpAny_bind (wpAny_mono h₁ (fun _ s₁' h₁' => ?_) fun _ _ h' => h')
      refine wpAny_bind (wpAny_mono h₁' (fun _ s₂ h₂ => wpAny_bind (wpAny_mono h₂ (fun ok s₃ h₃ => ?_) fun _ _ h' => h')) fun _ _ h' => h')
      induction ok with
      | false => exact wpAny_pure ⟨rfl, h₃⟩
      | true =>
        simp only [if_true] at h₃
        unfold InnerW at h₃
        rw [q] at h₃
        refine wpAny_bind (wpAny_mono h₃ (fun x s₄ h₄ => wpAny_bind (wpAny_standAt ?_)) fun _ _ h' => h')
        refine wpAny_bind (wpAny_mono h₄ (fun x s₅ h₅ => wpAny_bind (wpAny_holding (wpAny_mono h₅ (fun it' s₆ h₆ => ?_) fun _ _ h' => h'))) fun _ _ h' => h')
        exact wpAny_bind (wpAny_mono h₆ (fun _ s₇ h₇ => wpAny_pure ⟨rfl, h₇⟩) fun _ _ h' => h')
theorem compStart_D {k v : Expr} {scope : Scope} {pos : Pos} {t i : Expr} {it acc : Value} {env : Env}
    (h0 : codeAny (model PG w) A (.compLoop (.DictComp k v [⟨t, i, [], 0⟩] scope pos) 0 it acc env) R s)
    (h : wpAny (model PG w) A (pyIter it) (fun it' s' => codeAny (model PG w) A (.compLoop (.DictComp k v [⟨t, i, [], 0⟩] scope pos) 0 it' acc env) R s') (Nt w A env R) s) :
    codeAny (model PG w) A (.compStart (.DictComp k v [⟨t, i, [], 0⟩] scope pos) 0 it acc env) R s := codeAny_compStart_dict h0 h
theorem compLoop_D {k v : Expr} {scope : Scope} {pos : Pos} {t i : Expr} {it acc : Value} {env : Env} (I : Nat → Shared → Prop)
    (turn : ∀ n s, I n s → wpAny (model PG w) A (pyNext it) (fun r s₁ => match r with
      | none => R (.ok .next) s₁
      | some x => wpAny (model PG w) A (letOwnedTupleGo t it x) (fun _ s₁' => wpAny (model PG w) A (assign t env x) (fun _ s₂ =>
          wpAny (model PG w) A (innerD k v acc env) (fun _ s₄ => ∃ m, m < n ∧ I m s₄) (Nt w A env R) s₂) (Nt w A env R) s₁') (Nt w A env R) s₁) (Nt w A env R) s)
    (n : Nat) (h : I n s) : codeAny (model PG w) A (.compLoop (.DictComp k v [⟨t, i, [], 0⟩] scope pos) 0 it acc env) R s := by
  refine codeAny_loop rfl I (fun n s hI => ?_) n h
  show wpAny _ A ((compTurn (.DictComp k v [⟨t, i, [], 0⟩] scope pos) 0 it acc env).onRaise (fun x => do noteFrame x env; theTreesLotGoes x)) _ _ s
  refine wpAny_noted ?_
  rw [show compTurn (.DictComp k v [⟨t, i, [], 0⟩] scope pos) 0 it acc env = (do
      standAt i.pos
      match ← pyNext it with
      | none => pure (.done .next)
      | some x =>
        letOwnedTupleGo t it x
        assign t env x
        innerD k v acc env
        again (.compLoop (.DictComp k v [⟨t, i, [], 0⟩] scope pos) 0 it acc env)) from by unfold innerD; rfl]
  refine wpAny_bind (wpAny_standAt (wpAny_bind (wpAny_mono (turn n s hI) (fun r s₁ h₁ => ?_) fun _ _ h' => h')))
  induction r with
  | none => exact wpAny_pure h₁
  | some x =>
    refine wpAny_bind (wpAny_mono h₁ (fun _ s₁' h₁' => ?_) fun _ _ h' => h')
    exact wpAny_bind (wpAny_mono h₁' (fun _ s₂ h₂ => wpAny_bind (wpAny_mono h₂ (fun _ s₃ h₃ => wpAny_pure ⟨rfl, h₃⟩) fun _ _ h' => h')) fun _ _ h' => h')
end
theorem bindF_look {sc : Scope} {t : Expr} {v : PV} {vs vs' : Vars} (e : BindF sc t v vs vs') : ∀ y p, vs.lookup y = some p → vs'.lookup y = some p := by
  intro y p hy
  have ne : ∀ {x : Str}, vs.lookup x = none → y ≠ x := fun {x} h q => by rw [q, h] at hy; cases hy
  induction e with
  | name _ _ h => rw [lookup_cons', if_neg (ne h)]; exact hy
  | pair _ _ h1 h2 => rw [lookup_cons', if_neg (ne h2), lookup_cons', if_neg (ne h1)]; exact hy
theorem bindF_bind {sc : Scope} {t : Expr} {v : PV} {vs vs' : Vars} (e : BindF sc t v vs vs') : BindT sc t v vs vs' := by
  induction e with
  | name h1 h2 _ => exact .name h1 h2
  | pair h1 h2 _ _ => exact .pair h1 h2

section
variable {w : World} {A : Around} {env : Env} {sc sc' : Scope} {F ML M M' T : List Addr} {Hs Hs' : HL} {vs vs' : Vars} {wd wd' : Wd} {s : Shared} {n : Nat} {h' : Heap} {pv : PV} {X : Value → Shared → Prop} {E : Ev} {D : Addr} {ds : List PyData} {R : Result → Shared → Prop}

theorem Si.weak (I : Si w A env sc F ML M Hs vs' wd s n) (e : ∀ y p, vs.lookup y = some p → vs'.lookup y = some p) : Si w A env sc F ML M Hs vs wd s n := by
  refine ⟨I.ek, I.ai, I.wi, ⟨?_, I.ei.locM, I.ei.locH, I.ei.cells, I.ei.cellOf, I.ei.inj, I.ei.ml, I.ei.mlx, I.ei.in2⟩, I.mt, I.fh⟩
  obtain ⟨m, hn, hv⟩ := I.ei.ns
  exact ⟨m, hn, fun x pv q => hv x pv (e _ _ q)⟩
theorem tests_false {ifs : List Expr} {Q : Bool → Shared → Prop} (h : Q false s) : wpAny (model PG w) A (forIn ifs false fun c r => if r = true then do let ok ← isTrue c env (eval c env); pure (ForInStep.yield ok) else pure (ForInStep.yield r)) Q X s := by
  induction ifs with
  | nil => exact wpAny_pure h
  | cons c r ih =>
    rw [List.forIn_cons]
    simp only [Bool.false_eq_true, if_false]
    exact wpAny_bind (wpAny_pure ih)
theorem tests_snd {Q : Bool → Shared → Prop} (hT : TsS w n E.tst) {ifs : List Expr} {M Hs wd s b wd'} (I : Si w A env sc F ML M Hs vs wd s n) (h : Tests (fun e wd => E.tst sc e vs wd) ifs wd b wd') (hQ : PostB w F M Hs s Q b wd') :
    wpAny (model PG w) A (testsOf ifs env) Q X s := by
  induction h generalizing M Hs s with
  | nil => exact wpAny_pure (hQ _ _ s.heap s.toks (Go.refl _ _ _ _ _) I.wi I.mt)
  | no e1 =>
    unfold testsOf
    rw [List.forIn_cons]
    exact wpAny_bind (wpAny_bind (hT I e1 fun Hs₁ M₁ h₁ tk₁ G₁ W₁ m₁ => wpAny_pure (tests_false (hQ _ _ _ tk₁ G₁ W₁ m₁))))
  | yes e1 _ ih =>
    unfold testsOf
    rw [List.forIn_cons]
    exact wpAny_bind (wpAny_bind (hT I e1 fun Hs₁ M₁ h₁ tk₁ G₁ W₁ m₁ => wpAny_pure (ih (I.go G₁ W₁ m₁ tk₁) (hQ.next G₁))))

/-- a comprehension's state: its environment, and the list D that it fills -/
structure Ls (w : World) (A : Around) (env : Env) (sc : Scope) (F ML M : List Addr) (Hs : HL) (vs : Vars) (D : Addr) (ds : List PyData) (wd : Wd) (s : Shared) (n : Nat) : Prop where
  si : Si w A env sc F ML M Hs vs wd s n
  dm : D ∈ M
  ap : Apart env F ML Hs D
  ct : ∃ xs : Array Value, s.heap.PlainList D xs ∧ RdA s.heap M xs.toList ds
theorem RdA.hid {h h' : Heap} {vs : List Value} {ds : List PyData} (r : RdA h M vs ds) (k : ∀ a o, (Hid h M).get? a = some o → (Hid h' M').get? a = some o) : RdA h' M' vs ds := by obtain ⟨as, r⟩ := r; exact ⟨as, ReadsAll.keeps k r⟩
theorem Rd.hid {h h' : Heap} {v : Value} {d : PyData} (r : Rd h M v d) (k : ∀ a o, (Hid h M).get? a = some o → (Hid h' M').get? a = some o) : Rd h' M' v d := by obtain ⟨as, r⟩ := r; exact ⟨as, Reads.keeps k r⟩
theorem Apart.go {a : Addr} (ap : Apart env F ML Hs a) {S h h'} (G : Go S Hs F M h Hs' M' h') (hl : a < h.objs.size) : Apart env F ML Hs' a := ⟨G.hlNew' hl ap.hl, ap.lc, ap.ce, ap.ml, ap.fr⟩
theorem Ls.goE (L : Ls w A env sc F ML M Hs vs D ds wd s n) (G : Go [] Hs F M s.heap Hs' M' h') (W : WInv w M' Hs' wd' h') (m : Mt h' M') (tk : Nat) : Ls w A env sc F ML M' Hs' vs D ds wd' { s with heap := h', toks := tk } n := by
  obtain ⟨xs, ⟨k, e⟩, r⟩ := L.ct
  exact ⟨L.si.go G W m tk, G.ms _ L.dm, L.ap.go G (L.si.mt D L.dm), xs, ⟨k, G.keep _ _ (fun x => nomatch x) L.ap.hl L.ap.fr e⟩, r.hid (G.hid L.si.ei.in2 fun _ x => nomatch x)⟩
theorem Apart.own {a : Addr} (ap : Apart env F ML Hs a) : a ∉ Own env sc := fun x => by
  rcases own_inv x with rfl | ⟨x, _, hc⟩
  · exact ap.lc rfl
  · exact ap.ce x a hc rfl
theorem own_M (I : Si w A env sc F ML M Hs vs wd s n) : ∀ a ∈ Own env sc, a ∈ M := fun a ha => by
  rcases own_inv ha with rfl | ⟨x, _, hc⟩
  · exact I.ei.locM
  · exact (I.ei.cells x a hc).1
theorem Ls.own (L : Ls w A env sc F ML M Hs vs D ds wd s n) (p : Pv (Own env sc) s.heap h') {tk : Nat} (I : Si w A env sc F ML M Hs vs' wd { s with heap := h', toks := tk } n) : Ls w A env sc F ML M Hs vs' D ds wd { s with heap := h', toks := tk } n := by
  obtain ⟨xs, ⟨k, e⟩, r⟩ := L.ct
  exact ⟨I, L.dm, L.ap, xs, ⟨k, p.keep _ _ L.ap.own e⟩, r.hid (p.hid (own_M L.si) fun _ x => .inl x)⟩
theorem Ls.one {I : Addr} (L : Ls w A env sc F ML M Hs vs D ds wd s n) (p : Pv [I] s.heap h') (hI : I ∈ M) (ap : Apart env F ML Hs I) (hd : I ≠ D) (tk : Nat) : Ls w A env sc F ML M Hs vs D ds wd { s with heap := h', toks := tk } n := by
  obtain ⟨xs, ⟨k, e⟩, r⟩ := L.ct
  have h1 : ∀ a ∈ [I], a ∈ M ∧ Apart env F ML Hs a := one_all (⟨hI, ap⟩)
  refine ⟨L.si.pvt p h1 (fun _ x => x) (fun _ x => .inl x) (fun a x => Nat.lt_of_lt_of_le (L.si.mt a x) p.size) tk, L.dm, L.ap, xs, ⟨k, p.keep _ _ (fun x => ?_) e⟩, r.hid (p.hid (fun a x => (h1 a x).1) fun _ x => .inl x)⟩
  exact hd (List.mem_singleton.mp x).symm
theorem Ls.weak (L : Ls w A env sc F ML M Hs vs' D ds wd s n) (e : ∀ y p, vs.lookup y = some p → vs'.lookup y = some p) : Ls w A env sc F ML M Hs vs D ds wd s n := ⟨L.si.weak e, L.dm, L.ap, L.ct⟩

/-- what a comprehension writes -/
noncomputable abbrev TB (env : Env) (sc : Scope) (D : Addr) : List Addr := D :: Own env sc
noncomputable abbrev PostLs (w : World) (A : Around) (env : Env) (sc : Scope) (F ML M : List Addr) (Hs : HL) (s : Shared) (vs : Vars) (D : Addr) (n : Nat) (S : List Addr) (Q : Shared → Prop) (σ : List PyData × Wd) : Prop :=
  ∀ M' Hs' h' tk, Go S Hs F M s.heap Hs' M' h' → Ls w A env sc F ML M' Hs' vs D σ.1 σ.2 { s with heap := h', toks := tk } n → Q { s with heap := h', toks := tk }
noncomputable def InnS (w : World) (A : Around) (env : Env) (sc : Scope) (F ML : List Addr) (D : Addr) (n : Nat) (elt : Expr) (gens : List Comprehension) (sc₀ : Scope) (pos : Pos) (d : Nat) (vs : Vars) (K : Vars → List PyData × Wd → List PyData × Wd → Prop) : Prop :=
  ∀ {vs' : Vars} {σ σ' : List PyData × Wd} {M Hs s} {Q : Unit → Shared → Prop} {X}, (∀ y p, vs.lookup y = some p → vs'.lookup y = some p) → K vs' σ σ' → Ls w A env sc F ML M Hs vs' D σ.1 σ.2 s n → PostLs w A env sc F ML M Hs s vs' D n (TB env sc D) (Q ()) σ' → InnerW w A elt gens sc₀ pos d (.ref D) env Q X s

theorem elem_snd {elt : Expr} {gens : List Comprehension} {sc₀ : Scope} {pos : Pos} {d : Nat} (hE : EvS w n E.ev) (hg : gens[d + 1]? = none) : InnS w A env sc F ML D n elt gens sc₀ pos d vs (ElemK E sc elt) := by
  intro vs' σ σ' M Hs s Q X _ e L hQ
  unfold InnerW
  rw [hg]
  induction e with
  | mk q hz =>
    refine hE L.si q fun v Hs₁ M₁ h₁ tk₁ G₁ W₁ m₁ r₁ => ?_
    have L₁ := L.goE G₁ W₁ m₁ tk₁
    obtain ⟨xs, pl, r⟩ := L₁.ct
    have sz := r.len
    simp only [Array.length_toList] at sz
    refine wpAny_list_append_plain pl (fun h₂ pl₂ sb => ?_) (size_small (by rw [sz]; exact hz))
    have p : Pv [D] h₁ h₂ := sb_pv sb
    have h1 : ∀ a ∈ [D], a ∈ M₁ ∧ Apart env F ML Hs₁ a := one_all (⟨L₁.dm, L₁.ap⟩)
    have hT : ∀ a ∈ [D], a ∈ TB env sc D := one_all (.head _)
    refine hQ M₁ Hs₁ h₂ tk₁ ((G₁.weaken fun _ x => nomatch x).trans' (p.go (fun _ x => x) (fun _ x => .inl x) _ _ _ hT))
      ⟨L₁.si.pvt p h1 (fun _ x => x) (fun _ x => .inl x) (fun a x => by rw [sb.1]; exact m₁ a x) tk₁, L₁.dm, L₁.ap, _, pl₂, ?_⟩
    rw [Array.toList_push]
    exact (r.app (.cons r₁.rd .nil)).hid (p.hid (fun a x => (h1 a x).1) fun _ x => .inl x)
end
theorem Go.mNew' {S Hs F M h Hs' M' h'} (G : Go S Hs F M h Hs' M' h') {a : Addr} (e : a < h.objs.size) (hn : a ∉ M) : a ∉ M' := fun hm => by
  rcases G.fresh a hm with q | q
  · exact hn q
  · exact absurd e (Nat.not_lt.mpr q)
theorem one_mem {I : Addr} {l : List Addr} : ∀ a ∈ [I], a ∈ I :: l := one_all (.head _)
section
variable {w : World} {A : Around} {env : Env} {sc sc' : Scope} {F ML M M' T : List Addr} {Hs Hs' : HL} {vs vs' : Vars} {wd wd' : Wd} {s : Shared} {n : Nat} {h' : Heap} {pv : PV} {X : Value → Shared → Prop} {E : Ev} {D : Addr} {ds : List PyData} {R : Result → Shared → Prop}

/-- what an iterator rests on stands through a body's run -/
theorem itr_keep {I : Addr} {ax : List Addr} {k j : Nat} {P : Nat → Value → Prop} {St : Nat → Heap → Prop} (It : Itr w A I ax k P St) {S : List Addr} {h : Heap} (G : Go S Hs F M h Hs' M' h') (hS : ∀ a ∈ S, a ∈ M) (hI : I ∉ S ∧ I ∉ Hs.map (·.2) ∧ I ∉ F) (hF : ∀ a ∈ F, a ∈ M) (hH : ∀ p ∈ Hs, p.2 ∈ M) (hax : ∀ b ∈ ax, b ∉ M) (st : St j h) : St j h' := by
  refine It.W.frame _ _ _ st fun b hb o e => ?_
  rcases List.mem_cons.mp hb with rfl | hb
  · exact G.keep _ _ hI.1 hI.2.1 hI.2.2 e
  · have := hax b hb
    refine G.keep _ _ (fun x => this (hS b x)) (fun x => ?_) (fun x => this (hF b x)) e
    obtain ⟨p, hp, rfl⟩ := List.mem_map.mp x
    exact this (hH p hp)
theorem drop_at {xs : List PyData} {j : Nat} {x : PyData} (hx : xs[j]? = some x) : xs.drop j = x :: xs.drop (j + 1) := by
  obtain ⟨h, hx'⟩ := List.getElem?_eq_some_iff.mp hx
  rw [List.drop_eq_getElem_cons h, hx']
theorem tb_keep {I : Addr} {ax : List Addr} {k j : Nat} {P : Nat → Value → Prop} {St : Nat → Heap → Prop} {S M₁ M₅ : List Addr} {Hs₁ Hs₅ : HL} {h₀ h₅ : Heap} (It : Itr w A I ax k P St) (hax : ∀ b ∈ ax, b ∉ M ∧ b < h₀.objs.size) (G₁ : Go S Hs F M h₀ Hs₁ M₁ s.heap) (G₅ : Go (TB env sc D) Hs₁ F M₁ s.heap Hs₅ M₅ h₅) (hD : I ≠ D) (ap : Apart env F ML Hs₁ I) (I₂ : Si w A env sc F ML M₁ Hs₁ vs wd s n) (dm : D ∈ M₁) (st : St j s.heap) : St j h₅ := by
  refine itr_keep It G₅ (fun a x => ?_) ⟨fun x => ?_, ap.hl, ap.fr⟩ I₂.ai.fM I₂.wi.hlM (fun b hb => G₁.mNew' (hax b hb).2 (hax b hb).1) st
  · rcases List.mem_cons.mp x with rfl | x
    · exact dm
    · exact own_M I₂ a x
  · rcases List.mem_cons.mp x with x | x
    · exact hD x
    · exact ap.own x
theorem tb_M (I₂ : Si w A env sc F ML M Hs vs wd s n) {I : Addr} (hI : I ∈ M) (dm : D ∈ M) : ∀ a ∈ I :: TB env sc D, a ∈ M := fun a x => by
  rcases List.mem_cons.mp x with rfl | x
  · exact hI
  · rcases List.mem_cons.mp x with rfl | x
    · exact dm
    · exact own_M I₂ a x
inductive ClAt (w : World) (A : Around) (env : Env) (sc : Scope) (F ML : List Addr) (D : Addr) (vs : Vars) (n : Nat) (S : List Addr) (Hs : HL) (M : List Addr) (s : Shared) (xs : List PyData) (St : Nat → Heap → Prop) (R : List PyData → List PyData × Wd → Prop) (k : Nat) (s' : Shared) : Prop
  | mk {j M' Hs' h' tk σ} : s' = { s with heap := h', toks := tk } → j ≤ xs.length → k = xs.length - j → Go S Hs F M s.heap Hs' M' h' → Ls w A env sc F ML M' Hs' vs D σ.1 σ.2 { s with heap := h', toks := tk } n → St j h' → R (xs.drop j) σ → ClAt w A env sc F ML D vs n S Hs M s xs St R k s'
/-- one turn of a clause -/
theorem clause_turn {t : Expr} {fs : List Expr} {K : Vars → List PyData × Wd → List PyData × Wd → Prop} {σ σ' : List PyData × Wd} {x : PyData} {xs : List PyData} {elt : Expr} {gens : List Comprehension} {sc₀ : Scope} {pos : Pos} {d : Nat} {v : Value} {P : Shared → Prop}
    (hT : TsS w n E.tst) (hK : InnS w A env sc F ML D n elt gens sc₀ pos d vs K) (L : Ls w A env sc F ML M Hs vs D σ.1 σ.2 s n) (rv : Vr w.params s.heap M Hs ML v (.dat x)) (e : Clause E sc t fs K vs (x :: xs) σ σ')
    (fin : ∀ M₅ Hs₅ h₅ tk₅ σ₅, Go (TB env sc D) Hs F M s.heap Hs₅ M₅ h₅ → Ls w A env sc F ML M₅ Hs₅ vs D σ₅.1 σ₅.2 { s with heap := h₅, toks := tk₅ } n → Clause E sc t fs K vs xs σ₅ σ' → P { s with heap := h₅, toks := tk₅ }) :
    wpAny (model PG w) A (assign t env v) (fun _ s₂ => wpAny (model PG w) A (testsOf fs env) (fun ok s₃ => if ok = true then InnerW w A elt gens sc₀ pos d (.ref D) env (fun _ s₄ => P s₄) (Nt w A env R) s₃ else P s₃) (Nt w A env R) s₂) (Nt w A env R) s := by
  have tb : ∀ {h₃}, Pv (Own env sc) s.heap h₃ → Go (TB env sc D) Hs F M s.heap Hs M h₃ := fun p => p.go (fun _ x => x) (fun _ x => .inl x) _ _ _ fun _ x => .tail _ x
  cases e with
  | skip q1 q2 e =>
    exact assign_snd L.si (bindF_bind q1) rv fun h₃ tk₃ p₃ I₃ => tests_snd hT (L.own p₃ I₃).si q2 fun Hs₄ M₄ h₄ tk₄ G₄ W₄ m₄ => ite_f (fin M₄ Hs₄ h₄ tk₄ (σ.1, _) ((tb p₃).trans' (G₄.weaken fun _ x => nomatch x)) (((L.own p₃ I₃).goE G₄ W₄ m₄ tk₄).weak (bindF_look q1)) e)
  | take q1 q2 q3 e =>
    exact assign_snd L.si (bindF_bind q1) rv fun h₃ tk₃ p₃ I₃ => tests_snd hT (L.own p₃ I₃).si q2 fun Hs₄ M₄ h₄ tk₄ G₄ W₄ m₄ => ite_t (hK (σ := (σ.1, _)) (bindF_look q1) q3 ((L.own p₃ I₃).goE G₄ W₄ m₄ tk₄) fun M₅ Hs₅ h₅ tk₅ G₅ L₅ =>
      fin M₅ Hs₅ h₅ tk₅ _ (((tb p₃).trans' (G₄.weaken fun _ x => nomatch x)).trans' G₅) (L₅.weak (bindF_look q1)) e)
theorem clause_snd {t i : Expr} {fs : List Expr} {K : Vars → List PyData × Wd → List PyData × Wd → Prop} {σ σ' : List PyData × Wd} {xs : List PyData} {elt : Expr} {gens : List Comprehension} {sc₀ : Scope} {pos : Pos} {d : Nat} {I : Addr} {ax : List Addr} {P : Nat → Value → Prop} {St : Nat → Heap → Prop}
    (hT : TsS w n E.tst) (hg : gens[d]? = some ⟨t, i, fs, 0⟩) (hn : ∀ g', gens[d + 1]? = some g' → g'.is_async = 0) (hK : InnS w A env sc F ML D n elt gens sc₀ pos d vs K) (L : Ls w A env sc F ML M Hs vs D σ.1 σ.2 s n)
    (It : Itr w A I ax xs.length P St) (st : St 0 s.heap) (hI : I ∈ M) (ap : Apart env F ML Hs I) (hD : I ≠ D) (hax : ∀ b ∈ ax, b ∉ M ∧ b < s.heap.objs.size) (hP : ∀ i v, i < xs.length → P i v → ∃ d, xs[i]? = some d ∧ Rd s.heap M v d)
    (e : Clause E sc t fs K vs xs σ σ') (hR : PostLs w A env sc F ML M Hs s vs D n (I :: TB env sc D) (R (.ok .next)) σ') :
    codeAny (model PG w) A (.compLoop (.ListComp elt gens sc₀ pos) d (.ref I) (.ref D) env) R s := by
  refine compLoop_L hg hn (ClAt w A env sc F ML D vs n (I :: TB env sc D) Hs M s xs St fun ds σ => Clause E sc t fs K vs ds σ σ') ?_ (xs.length - 0) ⟨rfl, Nat.zero_le _, rfl, Go.refl _ _ _ _ _, L, st, e⟩
  rintro k s' ⟨rfl, hj, rfl, G₁, L₁, st₁, e₁⟩
  rename_i j M₁ Hs₁ h₁ tk₁ σj
  have ap₁ := ap.go G₁ (L.si.mt I hI)
  have step : ∀ {h₂ tk₂}, Pv [I] h₁ h₂ → Go (I :: TB env sc D) Hs F M s.heap Hs₁ M₁ h₂ ∧ Ls w A env sc F ML M₁ Hs₁ vs D σj.1 σj.2 { s with heap := h₂, toks := tk₂ } n := fun {h₂ tk₂} p₂ => ⟨G₁.trans' (p₂.go (fun _ x => x) (fun _ x => .inl x) _ _ _ one_mem), L₁.one (tk := tk₂) p₂ (G₁.ms I hI) ap₁ hD⟩
  rcases Nat.lt_or_ge j xs.length with hlt | hge
  · refine wpAny_sz (It.W.item j _ _ _ hlt st₁ fun v h₂ tk₂ hv st₂ kp₂ hz₂ => ?_)
    obtain ⟨G₂, L₂⟩ := step (tk₂ := tk₂) ⟨fun a o q e => kp₂ a o q e, hz₂⟩
    obtain ⟨x, hx, rx⟩ := hP j v hlt hv
    rw [drop_at hx] at e₁
    exact It.own t _ _ _ _ _ st₂ (clause_turn (P := fun s' => ∃ m, m < xs.length - j ∧ ClAt w A env sc F ML D vs n (I :: TB env sc D) Hs M s xs St (fun ds σ => Clause E sc t fs K vs ds σ σ') m s') hT hK L₂ (rx.hid (G₂.hid L.si.ei.in2 (tb_M L.si hI L.dm))).vr e₁ fun M₅ Hs₅ h₅ tk₅ σ₅ G₅ L₅ e₅ =>
      ⟨xs.length - (j + 1), Nat.sub_lt_sub_left hlt (Nat.lt_succ_self j), rfl, hlt, rfl, G₂.trans' (G₅.weaken fun _ x => .tail _ x), L₅, tb_keep It hax G₂ G₅ hD ap₁ L₂.si L₂.dm st₂, e₅⟩)
  · cases Nat.le_antisymm hj hge
    rw [List.drop_length] at e₁
    cases e₁
    refine wpAny_sz (It.W.done _ _ _ st₁ fun h₂ tk₂ kp₂ hz₂ => ?_)
    obtain ⟨G₂, L₂⟩ := step (tk₂ := tk₂) ⟨fun a o q e => kp₂ a o q e, hz₂⟩
    exact hR M₁ Hs₁ h₂ tk₂ G₂ L₂
end
theorem folded_plain {e : Expr} {env : Env} (h : notSet e = true) (x : Value) : foldedSetIterable e env x = pure x := by
  cases e <;> first | rfl | exact ff h
theorem itersOf_notSet {E : Ev} {sc : Scope} {e : Expr} {vs : Vars} {wd wd' : Wd} {xs} (h : ItersOf E sc vs e wd xs wd') : notSet e = true := by
  induction h with
  | range => rfl
  | plain h => exact h
section
variable {w : World} {A : Around} {env : Env} {sc sc' : Scope} {F ML M M' T : List Addr} {Hs Hs' : HL} {vs vs' : Vars} {wd wd' : Wd} {s : Shared} {n : Nat} {h' : Heap} {pv : PV} {X : Value → Shared → Prop} {E : Ev} {D : Addr} {ds : List PyData} {R : Result → Shared → Prop}

theorem apart_new {a : Addr} {s' : Shared} (I : Si w A env sc F ML M Hs vs wd s n) (h : s.heap.objs.size ≤ a) {Hs' : HL} (hl : a ∉ Hs'.map (·.2)) (_s : s' = s) : Apart env F ML Hs' a :=
  ⟨hl, fun e => absurd (I.mt _ I.ei.locM) (Nat.not_lt.mpr (e ▸ h)), fun x c hc e => absurd (I.mt _ (I.ei.cells x c hc).1) (Nat.not_lt.mpr (e ▸ h)), fun x => absurd (I.ei.ml.there a x) (Nat.not_lt.mpr h), fun x => absurd (I.mt _ (I.ai.fM a x)) (Nat.not_lt.mpr h)⟩
theorem nest_snd {elt t₂ it₂ : Expr} {ifs₂ : List Expr} {gens : List Comprehension} {sc₀ : Scope} {pos : Pos} {d : Nat} (hE : EvS w n E.ev) (hT : TsS w n E.tst) (hg : gens[d + 1]? = some ⟨t₂, it₂, ifs₂, 0⟩) (hg2 : gens[d + 1 + 1]? = none) :
    InnS w A env sc F ML D n elt gens sc₀ pos d vs (NestK E sc elt t₂ it₂ ifs₂) := by
  intro vs' σ σ' M Hs s Q X _ e L hQ
  unfold InnerW
  rw [hg]
  induction e with
  | mk q e =>
    rename_i ys wd₁
    dsimp only
    refine wpAny_mono (iters_snd hE (X := X) (Q := fun it s₃ => wpAny (model PG w) A (runOwn (.compStart (.ListComp elt gens sc₀ pos) (d + 1) it (.ref D) env) env) (fun _ s₄ => Q () s₄) X s₃) L.si q fun I ax P St Hs₁ M₁ h₁ tk₁ G₁ W₁ m₁ a1 a2 a3 It st hax hP => ?_) (fun x s₁ h => wpAny_of_eq (folded_plain (itersOf_notSet q) x) h) fun _ _ x => x
    have L₁ := L.goE G₁ W₁ m₁ tk₁
    have ap : Apart env F ML Hs₁ I := apart_new L.si a2 a3 rfl
    have hD : I ≠ D := fun h => absurd (L.si.mt D L.dm) (Nat.not_lt.mpr (h ▸ a2))
    refine wpAny_runOwn (A := A) ?_
    have loop : codeAny (model PG w) A (.compLoop (.ListComp elt gens sc₀ pos) (d + 1) (.ref I) (.ref D) env) (fun r s' => match r with | .ok f => Q () s' | .error e => cameBackBy (model PG w) A env X e s') { s with heap := h₁, toks := tk₁ } := by
      refine clause_snd (σ := (σ.1, wd₁)) hT hg (fun g' h => by rw [hg2] at h; cases h) (elem_snd hE hg2) L₁ It st a1 ap hD hax hP e fun M₂ Hs₂ h₂ tk₂ G₂ L₂ => ?_
      refine hQ M₂ Hs₂ h₂ tk₂ ((G₁.weaken fun _ x => no_mem x).trans G₂ fun a x => ?_) L₂
      rcases List.mem_cons.mp x with rfl | x
      · exact .inr a2
      · exact .inl x
    exact compStart_L hg loop (It.W.self _ _ _ _ st loop)

noncomputable abbrev FinC (w : World) (A : Around) (F M : List Addr) (Hs : HL) (s : Shared) (X : Value → Shared → Prop) (use : Option (Value → Sem Unit)) (Q : Value → Shared → Prop) (wd' : Wd) (pv : PV) : Prop :=
  ∀ D C M' Hs' h' tk, Go [] Hs F M s.heap Hs' M' h' → WInv w M' Hs' wd' h' → Mt h' M' → Rv w.params (Hid h' M') Hs' (.ref D) pv → s.heap.objs.size ≤ D → C ∈ M' → s.heap.objs.size ≤ C → C ∉ Hs'.map (·.2) → (∃ m, h'.Ns C m) → compPost (model PG w) A X use Q (.ref D) C (.ok .next) { s with heap := h', toks := tk }

/-- the end of a comprehension: the list that it filled is turned no more -/
theorem comp_end {Hs₀ : HL} {M₀ : List Addr} {s₀ : Shared} (L : Ls w A env sc F ML M Hs vs D ds wd s n) (I₀ : s₀.heap.objs.size ≤ D) (G : Go [] Hs₀ F M₀ s₀.heap Hs M s.heap) (hM₀ : Mt s₀.heap M₀) :
    Go [] Hs₀ F M₀ s₀.heap Hs (M.filter (· ≠ D)) s.heap ∧ WInv w (M.filter (· ≠ D)) Hs wd s.heap ∧ Mt s.heap (M.filter (· ≠ D)) ∧ Rd s.heap (M.filter (· ≠ D)) (.ref D) (.list ds) := by
  have sub : ∀ a ∈ M.filter (· ≠ D), a ∈ M := fun a x => (List.mem_filter.mp x).1
  have hid : ∀ a o, (Hid s.heap M).get? a = some o → (Hid s.heap (M.filter (· ≠ D))).get? a = some o := fun a o e => Hid.get (Hid.of e) fun x => Hid.off e (sub a x)
  have mem : ∀ a ∈ M, a ≠ D → a ∈ M.filter (· ≠ D) := fun a x h => List.mem_filter.mpr ⟨x, by simpa using h⟩
  refine ⟨⟨G.keep, G.fr, G.size, fun a x => mem a (G.ms a x) fun h => absurd (hM₀ a x) (Nat.not_lt.mpr (h ▸ I₀)), fun a x => G.fresh a (sub a x), G.hs⟩, ⟨fun a o e => hid _ _ (L.si.wi.kin a o e), L.si.wi.tr.keeps hid, L.si.wi.len, fun i p it e1 e2 => (L.si.wi.hd i p it e1 e2).mv hid fun _ e => e, fun p hp => ?_, L.si.wi.nd⟩, fun a x => L.si.mt a (sub a x), ?_⟩
  · exact mem _ (L.si.wi.hlM p hp) fun h => L.ap.hl (List.mem_map.mpr ⟨p, hp, h⟩)
  · obtain ⟨xs, pl, r⟩ := L.ct
    exact Rd.list pl.isList (fun x => by simpa using (List.mem_filter.mp x).2) (r.hid hid)
theorem comp_run {elt : Expr} {g : Comprehension} {gs : List Comprehension} {pos : Pos} {use : Option (Value → Sem Unit)} {Q : Value → Shared → Prop} {xs : List PyData} {r : List PyData × Wd} {wd₁ : Wd} (hE : EvS w n E.ev) (hT : TsS w n E.tst) (I : Si w A env sc F ML M Hs vs wd s n) (hp : plainScope sc sc' = true)
    (h1 : ItersOf E sc vs g.iter wd xs wd₁) (h2 : CompOf E sc' elt (g :: gs) xs (seenIn sc' vs) wd₁ r) (hfin : FinC w A F M Hs s X use Q r.2 (.dat (.list r.1))) :
    wpAny (model PG w) A (comprehension (.ListComp elt (g :: gs) sc' pos) sc' env (firstIterPos (g :: gs) pos) (newList []) (firstAsync (g :: gs)) (firstIter (g :: gs) env) use) Q X s := by
  obtain ⟨k1, k2, k3⟩ := plain_kind hp
  have key : ∃ t it fs, g = ⟨t, it, fs, 0⟩ ∧ ((gs = [] ∧ Clause E sc' t fs (ElemK E sc' elt) (seenIn sc' vs) xs ([], wd₁) r) ∨ ∃ t₂ it₂ fs₂, gs = [⟨t₂, it₂, fs₂, 0⟩] ∧ Clause E sc' t fs (NestK E sc' elt t₂ it₂ fs₂) (seenIn sc' vs) xs ([], wd₁) r) := by
    cases h2 with
    | one h => exact ⟨_, _, _, rfl, .inl ⟨rfl, h⟩⟩
    | two h => exact ⟨_, _, _, rfl, .inr ⟨_, _, _, rfl, h⟩⟩
  clear h2
  obtain ⟨t, it, fs, rfl, h2⟩ := key
  refine wpAny_comprehension_free (g := ⟨t, it, fs, 0⟩) (gs := gs) rfl (fun x => folded_plain (itersOf_notSet h1) x) (clos_eq (clos_ok I hp)) k1 (fun x hx hl => ?_) ?_
  · have := k2 x.1 x.2 hx
    rw [hl] at this
    exact this
  refine iters_snd hE I h1 fun It ax P St Hs₁ M₁ h₁ tk₁ G₁ W₁ m₁ a1 a2 a3 ItW st hax hP => ?_
  have I₁ := I.go G₁ W₁ m₁ tk₁
  refine wpAny_newList ?_ (by decide)
  obtain ⟨G₂, W₂, m₂, d₂⟩ := pushed I₁ { cls := .type "list", data := .seq (([] : List Value).toArray) }
  have I₂ := I₁.go G₂ W₂ m₂ tk₁
  have hD : s.heap.objs.size ≤ h₁.objs.size := G₁.size
  refine cEnv_snd I₂ hp fun M₃ h₃ cenv hc p₃ hm₃ hf₃ own₃ ce₃ I₃ O₃ => ?_
  have sz₂ : (h₁.push { cls := .type "list", data := .seq (([] : List Value).toArray) }).objs.size = h₁.objs.size + 1 := Heap.size_push ..
  have G₃ : Go [] Hs₁ F (h₁.objs.size :: M₁) (h₁.push { cls := .type "list", data := .seq (([] : List Value).toArray) }) Hs₁ M₃ h₃ := p₃.go hm₃ hf₃ _ _ _ fun _ x => x
  have ItLt : It < h₁.objs.size := m₁ _ a1
  have cap : ∀ a, s.heap.objs.size ≤ a → a < h₁.objs.size + 1 → a ∉ Hs₁.map (·.2) → Apart cenv F ML Hs₁ a := fun a b1 b2 b3 => by
    have b2' : a < (h₁.push { cls := .type "list", data := .seq (([] : List Value).toArray) }).objs.size := by rw [sz₂]; exact b2
    refine ⟨b3, fun e => absurd b2' (Nat.not_lt.mpr (own₃ a (by rw [e]; exact .head _))), fun x c hc e => ?_, fun x => absurd (I.ei.ml.there a x) (Nat.not_lt.mpr b1), fun x => absurd (I.mt _ (I.ai.fM a x)) (Nat.not_lt.mpr b1)⟩
    subst e
    rcases ce₃ x a hc with h | ⟨y, h⟩
    · exact absurd b2' (Nat.not_lt.mpr h)
    · exact absurd (I.mt _ (I.ei.cells y a h).1) (Nat.not_lt.mpr b1)
  have apI : Apart cenv F ML Hs₁ It := cap It a2 (Nat.lt_succ_of_lt ItLt) a3
  have apD : Apart cenv F ML Hs₁ h₁.objs.size := cap _ hD (Nat.lt_succ_self _) d₂
  have L₃ : Ls w A cenv sc' F ML M₃ Hs₁ (seenIn sc' vs) h₁.objs.size [] wd₁ { s with heap := h₃, toks := tk₁ } n :=
    ⟨I₃, hm₃ _ (.head _), apD, #[], ⟨0, p₃.keep _ _ (fun x => no_mem x) (Heap.get?_push_size _ rfl)⟩, .nil⟩
  have keepI : ∀ b ∈ It :: ax, ∀ o, h₁.get? b = some o → h₃.get? b = some o := fun b _ o e => p₃.keep _ _ (fun x => no_mem x) (Heap.get?_push_of_some _ e)
  have st₃ := ItW.W.frame _ _ _ st keepI
  have hid₃ : ∀ a o, (Hid h₁ M₁).get? a = some o → (Hid h₃ M₃).get? a = some o := fun a o e => (G₂.trans' G₃).hid I₁.ei.in2 (fun _ x => no_mem x) a o e
  have G13 : Go [] Hs F M s.heap Hs₁ M₃ h₃ := G₁.trans' (G₂.trans' G₃)
  have loop : codeAny (model PG w) A (.compLoop (.ListComp elt (⟨t, it, fs, 0⟩ :: gs) sc' pos) 0 (.ref It) (.ref h₁.objs.size) cenv) (compPost (model PG w) A X use Q (.ref h₁.objs.size) (cEnv sc' (h₁.push { cls := .type "list", data := .seq (([] : List Value).toArray) }).objs.size env).locals) { s with heap := h₃, toks := tk₁ } := by
    have go : ∀ {K : Vars → List PyData × Wd → List PyData × Wd → Prop}, InnS w A cenv sc' F ML h₁.objs.size n elt (⟨t, it, fs, 0⟩ :: gs) sc' pos 0 (seenIn sc' vs) K → (∀ g', (⟨t, it, fs, 0⟩ :: gs)[0 + 1]? = some g' → g'.is_async = 0) → Clause E sc' t fs K (seenIn sc' vs) xs ([], wd₁) r →
        codeAny (model PG w) A (.compLoop (.ListComp elt (⟨t, it, fs, 0⟩ :: gs) sc' pos) 0 (.ref It) (.ref h₁.objs.size) cenv) (compPost (model PG w) A X use Q (.ref h₁.objs.size) (cEnv sc' (h₁.push { cls := .type "list", data := .seq (([] : List Value).toArray) }).objs.size env).locals) { s with heap := h₃, toks := tk₁ } := fun {K} hK hn e => by
      refine clause_snd (σ := ([], wd₁)) hT rfl hn hK L₃ ItW st₃ (hm₃ _ (.tail _ a1)) apI (Nat.ne_of_lt ItLt) (fun b hb => ?_) (fun i v hi hv => ?_) e fun M₄ Hs₄ h₄ tk₄ G₄ L₄ => ?_
      · obtain ⟨b1, b2⟩ := hax b hb
        refine ⟨(G₂.trans' G₃).mNew' b2 b1, Nat.lt_of_lt_of_le b2 (G₂.trans' G₃).size⟩
      · obtain ⟨x, hx, rx⟩ := hP i v hi hv
        exact ⟨x, hx, rx.hid hid₃⟩
      · have G : Go [] Hs F M s.heap Hs₄ M₄ h₄ := G13.trans G₄ fun a x => .inr (by
          rcases List.mem_cons.mp x with rfl | x
          · exact a2
          · rcases List.mem_cons.mp x with rfl | x
            · exact hD
            · exact Nat.le_trans hD (Nat.le_trans (by rw [sz₂]; exact Nat.le_succ _) (own₃ a x)))
        obtain ⟨e1, e2, e3, e4⟩ := comp_end (s₀ := s) L₄ hD G I.mt
        have hC : (cEnv sc' (h₁.push { cls := .type "list", data := .seq (([] : List Value).toArray) }).objs.size env).locals = cenv.locals := by rw [hc]
        refine hfin _ _ _ Hs₄ h₄ tk₄ e1 e2 e3 (.dat e4.choose_spec) hD ?_ ?_ ?_ ?_
        · rw [hC]
          refine List.mem_filter.mpr ⟨L₄.si.ei.locM, ?_⟩
          simpa using fun h => L₄.ap.lc h.symm
        · rw [hC]
          exact Nat.le_trans hD (Nat.le_trans (by rw [sz₂]; exact Nat.le_succ _) (own₃ _ (.head _)))
        · rw [hC]; exact L₄.si.ei.locH
        · rw [hC]
          obtain ⟨m, hm, _⟩ := L₄.si.ei.ns
          exact ⟨m, hm⟩
    rcases h2 with ⟨e1, h3⟩ | ⟨t₂, it₂, fs₂, e1, h3⟩
    · subst e1
      exact go (K := ElemK E sc' elt) (elem_snd hE rfl) (fun g' h => by cases h) h3
    · subst e1
      exact go (K := NestK E sc' elt t₂ it₂ fs₂) (nest_snd hE hT rfl rfl) (fun g' h => by cases h; rfl) h3
  have fin : codeAny (model PG w) A (.compStart (.ListComp elt (⟨t, it, fs, 0⟩ :: gs) sc' pos) 0 (.ref It) (.ref h₁.objs.size) cenv) (compPost (model PG w) A X use Q (.ref h₁.objs.size) (cEnv sc' (h₁.push { cls := .type "list", data := .seq (([] : List Value).toArray) }).objs.size env).locals) { s with heap := h₃, toks := tk₁ } :=
    compStart_L rfl loop (ItW.W.self _ _ _ _ st₃ loop)
  rw [hc] at fin
  exact fin
end
section
variable {w : World} {A : Around} {env : Env} {sc sc' : Scope} {F ML M M' T : List Addr} {Hs Hs' : HL} {vs vs' : Vars} {wd wd' : Wd} {s : Shared} {n : Nat} {h' : Heap} {pv : PV} {Q : Value → Shared → Prop} {X : Value → Shared → Prop} {E : Ev} {D : Addr} {ds : List PyData} {R : Result → Shared → Prop}

/-- the pairs of a dict that is being filled -/
noncomputable abbrev KvR (w : World) (g : Heap) (Hs : HL) (a : List (Str × Value)) (b : List (Str × PV)) : Prop := All2 (fun p q => p.1 = q.1 ∧ Rv w.params g Hs p.2 q.2) a b
theorem KvR.mono {g g' : Heap} {a b} (r : KvR w g Hs a b) (hg : ∀ a o, g.get? a = some o → g'.get? a = some o) (hh : ∀ (k : Nat) (p : Addr × Addr), Hs[k]? = some p → Hs'[k]? = some p) : KvR w g' Hs' a b := by
  induction r with
  | nil => exact .nil
  | cons h _ ih => exact .cons ⟨h.1, h.2.mono hg hh⟩ ih
theorem KvR.app {g : Heap} {a b a' b'} (r : KvR w g Hs a b) (r' : KvR w g Hs a' b') : KvR w g Hs (a ++ a') (b ++ b') := by
  induction r with
  | nil => exact r'
  | cons h _ ih => exact .cons h ih
theorem KvR.keys {g : Heap} {a b} (r : KvR w g Hs a b) : a.map (·.1) = b.map (·.1) := by
  induction r with
  | nil => rfl
  | cons h _ ih => rw [List.map_cons, List.map_cons, ih, h.1]
theorem look_none {x : Str} : ∀ {l : List (Str × PV)}, (l.lookup x).isNone = true → x ∉ l.map (·.1)
  | [], _ => fun m => no_mem m
  | (y, p) :: r, h => by
    rw [lookup_cons'] at h
    split at h
    · cases h
    · rename_i q
      rw [List.map_cons]
      intro m
      rcases List.mem_cons.mp m with m | m
      · exact q m
      · exact look_none h m
theorem stored_new {kvs : List (Str × Value)} {x : Str} {v : Value} (h : x ∉ kvs.map (·.1)) : stored kvs x v = kvs ++ [(x, v)] := by
  unfold stored
  rw [if_neg]
  intro q
  obtain ⟨p, hp, e⟩ := List.any_eq_true.mp q
  exact h (List.mem_map.mpr ⟨p, hp, by simpa using e⟩)
theorem rvE_of {g : Heap} {es : List DictEntry} {kvsV : List (Str × Value)} (h : Pairs (strKind PG w) es kvsV) : ∀ {kvs : List (Str × PV)}, (∀ e ∈ es, ∃ k, (strKind PG w).is k e.key = true ∧ e.hash = (strKind PG w).hash k) → KvR w g Hs kvsV kvs → RvE w.params g Hs es kvs := by
  induction h with
  | nil =>
    intro kvs _ r
    cases r
    exact .nil
  | cons h1 h2 _ ih =>
    intro kvs hk r
    cases r with
    | cons r rs =>
      obtain ⟨k, k1, k2⟩ := hk _ (.head _)
      cases (strKind PG w).inj _ _ _ k1 h1
      obtain ⟨t, ht⟩ := Value.isStrOf_shape h1
      rw [r.1] at ht k2
      exact .cons ht k2 (by rw [h2]; exact r.2) (ih (fun e m => hk e (.tail _ m)) rs)
theorem rv_dict {h : Heap} {M₀ : List Addr} {kvsV : List (Str × Value)} {kvs : List (Str × PV)} (hd : h.DictOf (strKind PG w) D kvsV) (hn : D ∉ M₀) (r : KvR w (Hid h M₀) Hs kvsV kvs) : Rv w.params (Hid h M₀) Hs (.ref D) (.dct kvs) := by
  obtain ⟨⟨c, dd, dt, sl⟩, es, ep, ho, ⟨h1, h2, h3⟩, hdt, hk, hp, _⟩ := hd
  simp only at h1 h2 h3 hdt
  subst h1 h2 h3 hdt
  exact .dct (Hid.get ho hn) (rvE_of hp (fun e m => hk e (by simpa using m)) r)

structure Ld (w : World) (A : Around) (env : Env) (sc : Scope) (F ML M : List Addr) (Hs : HL) (vs : Vars) (D : Addr) (kvs : List (Str × PV)) (wd : Wd) (s : Shared) (n : Nat) : Prop where
  si : Si w A env sc F ML M Hs vs wd s n
  dm : D ∈ M
  ap : Apart env F ML Hs D
  ct : ∃ kvsV, s.heap.DictOf (strKind PG w) D kvsV ∧ KvR w (Hid s.heap M) Hs kvsV kvs
variable {kvs : List (Str × PV)}
theorem dictOf_at {h h' : Heap} {kvsV : List (Str × Value)} (x : h.DictOf (strKind PG w) D kvsV) (hk : ∀ o, h.get? D = some o → h'.get? D = some o) : h'.DictOf (strKind PG w) D kvsV := let ⟨o, es, ep, ho, r⟩ := x; ⟨o, es, ep, hk o ho, r⟩
theorem Ld.goE (L : Ld w A env sc F ML M Hs vs D kvs wd s n) (G : Go [] Hs F M s.heap Hs' M' h') (W : WInv w M' Hs' wd' h') (m : Mt h' M') (tk : Nat) : Ld w A env sc F ML M' Hs' vs D kvs wd' { s with heap := h', toks := tk } n := by
  obtain ⟨xs, e, r⟩ := L.ct
  exact ⟨L.si.go G W m tk, G.ms _ L.dm, L.ap.go G (L.si.mt D L.dm), xs, dictOf_at e fun o e => G.keep _ _ (fun x => nomatch x) L.ap.hl L.ap.fr e, r.mono (G.hid L.si.ei.in2 fun _ x => nomatch x) G.hsGet⟩
theorem Ld.own (L : Ld w A env sc F ML M Hs vs D kvs wd s n) (p : Pv (Own env sc) s.heap h') {tk : Nat} (I : Si w A env sc F ML M Hs vs' wd { s with heap := h', toks := tk } n) : Ld w A env sc F ML M Hs vs' D kvs wd { s with heap := h', toks := tk } n := by
  obtain ⟨xs, e, r⟩ := L.ct
  exact ⟨I, L.dm, L.ap, xs, dictOf_at e fun o e => p.keep _ _ L.ap.own e, r.mono (p.hid (own_M L.si) fun _ x => .inl x) fun _ _ e => e⟩
theorem Ld.one {I : Addr} (L : Ld w A env sc F ML M Hs vs D kvs wd s n) (p : Pv [I] s.heap h') (hI : I ∈ M) (ap : Apart env F ML Hs I) (hd : I ≠ D) (tk : Nat) : Ld w A env sc F ML M Hs vs D kvs wd { s with heap := h', toks := tk } n := by
  obtain ⟨xs, e, r⟩ := L.ct
  have h1 : ∀ a ∈ [I], a ∈ M ∧ Apart env F ML Hs a := one_all (⟨hI, ap⟩)
  refine ⟨L.si.pvt p h1 (fun _ x => x) (fun _ x => .inl x) (fun a x => Nat.lt_of_lt_of_le (L.si.mt a x) p.size) tk, L.dm, L.ap, xs, dictOf_at e fun o e => p.keep _ _ (fun x => ?_) e, r.mono (p.hid (fun a x => (h1 a x).1) fun _ x => .inl x) fun _ _ e => e⟩
  exact hd (List.mem_singleton.mp x).symm
theorem Ld.weak (L : Ld w A env sc F ML M Hs vs' D kvs wd s n) (e : ∀ y p, vs.lookup y = some p → vs'.lookup y = some p) : Ld w A env sc F ML M Hs vs D kvs wd s n := ⟨L.si.weak e, L.dm, L.ap, L.ct⟩
end
section
variable {w : World} {A : Around} {env : Env} {sc sc' : Scope} {F ML M M' T : List Addr} {Hs Hs' : HL} {vs vs' : Vars} {wd wd' : Wd} {s : Shared} {n : Nat} {h' : Heap} {pv : PV} {Q : Value → Shared → Prop} {X : Value → Shared → Prop} {E : Ev} {D : Addr} {ds : List PyData} {R : Result → Shared → Prop}

/-- a comprehension whose value is handed on -/
noncomputable abbrev PostF (w : World) (F M : List Addr) (Hs : HL) (s : Shared) (Q : Value → Shared → Prop) (pv : PV) (wd' : Wd) : Prop :=
  ∀ D Hs' M' h' tk, s.heap.objs.size ≤ D → Go [] Hs F M s.heap Hs' M' h' → WInv w M' Hs' wd' h' → Mt h' M' → Rv w.params (Hid h' M') Hs' (.ref D) pv → Q (.ref D) { s with heap := h', toks := tk }
theorem fin_fresh (hQ : PostF w F M Hs s Q pv wd') : FinC w A F M Hs s X none Q wd' pv := by
  intro D C M' Hs' h' tk G W m rv hD hC hCn hCh hns
  obtain ⟨mm, hns⟩ := hns
  refine ⟨mm, hns, fun h'' sb => ?_⟩
  have p := sb_pv sb
  refine hQ D Hs' M' h'' tk hD (G.trans (p.go (fun _ x => x) (fun _ x => .inl x) [C] F Hs' fun _ x => x) (one_all (.inr hCn))) (W.pvt p (one_all hC) (one_all hCh) (fun _ x => x) fun _ x => .inl x) (fun a x => ?_) (rv.mono (p.hid (one_all hC) fun _ x => .inl x) fun _ _ e => e)
  exact Nat.lt_of_lt_of_le (m a x) p.size
theorem fin_plain (hQ : PostE w F ML M Hs s Q pv wd') : FinC w A F M Hs s X none Q wd' pv := fin_fresh fun D Hs' M' h' tk _ G W m r => hQ _ Hs' M' h' tk G W m (.inl r)
theorem listcomp_case {elt : Expr} {g : Comprehension} {gs : List Comprehension} {pos : Pos} {xs : List PyData} {r : List PyData × Wd} {wd₁ : Wd} (hE : EvS w n E.ev) (hT : TsS w n E.tst) (I : Si w A env sc F ML M Hs vs wd s n) (hp : plainScope sc sc' = true)
    (h1 : ItersOf E sc vs g.iter wd xs wd₁) (h2 : CompOf E sc' elt (g :: gs) xs (seenIn sc' vs) wd₁ r) (hQ : PostE w F ML M Hs s Q (.dat (.list r.1)) r.2) :
    wpAny (model PG w) A (eval (.ListComp elt (g :: gs) sc' pos) env) Q X s := by
  rw [arm_eval_ListComp]
  exact comp_run hE hT I hp h1 h2 (fin_plain hQ)

theorem listcomp_fresh {elt : Expr} {g : Comprehension} {gs : List Comprehension} {pos : Pos} {xs : List PyData} {r : List PyData × Wd} {wd₁ : Wd} (hE : EvS w n E.ev) (hT : TsS w n E.tst) (I : Si w A env sc F ML M Hs vs wd s n) (hp : plainScope sc sc' = true)
    (h1 : ItersOf E sc vs g.iter wd xs wd₁) (h2 : CompOf E sc' elt (g :: gs) xs (seenIn sc' vs) wd₁ r) (hQ : PostF w F M Hs s Q (.dat (.list r.1)) r.2) :
    wpAny (model PG w) A (eval (.ListComp elt (g :: gs) sc' pos) env) Q X s := by
  rw [arm_eval_ListComp]
  exact comp_run hE hT I hp h1 h2 (fin_fresh hQ)
theorem ld_end {Hs₀ : HL} {M₀ : List Addr} {s₀ : Shared} {kvs : List (Str × PV)} (L : Ld w A env sc F ML M Hs vs D kvs wd s n) (I₀ : s₀.heap.objs.size ≤ D) (G : Go [] Hs₀ F M₀ s₀.heap Hs M s.heap) (hM₀ : Mt s₀.heap M₀) :
    Go [] Hs₀ F M₀ s₀.heap Hs (M.filter (· ≠ D)) s.heap ∧ WInv w (M.filter (· ≠ D)) Hs wd s.heap ∧ Mt s.heap (M.filter (· ≠ D)) ∧ Rv w.params (Hid s.heap (M.filter (· ≠ D))) Hs (.ref D) (.dct kvs) := by
  have sub : ∀ a ∈ M.filter (· ≠ D), a ∈ M := fun a x => (List.mem_filter.mp x).1
  have hid : ∀ a o, (Hid s.heap M).get? a = some o → (Hid s.heap (M.filter (· ≠ D))).get? a = some o := fun a o e => Hid.get (Hid.of e) fun x => Hid.off e (sub a x)
  have mem : ∀ a ∈ M, a ≠ D → a ∈ M.filter (· ≠ D) := fun a x h => List.mem_filter.mpr ⟨x, by simpa using h⟩
  refine ⟨⟨G.keep, G.fr, G.size, fun a x => mem a (G.ms a x) fun h => absurd (hM₀ a x) (Nat.not_lt.mpr (h ▸ I₀)), fun a x => G.fresh a (sub a x), G.hs⟩, ⟨fun a o e => hid _ _ (L.si.wi.kin a o e), L.si.wi.tr.keeps hid, L.si.wi.len, fun i p it e1 e2 => (L.si.wi.hd i p it e1 e2).mv hid fun _ e => e, fun p hp => ?_, L.si.wi.nd⟩, fun a x => L.si.mt a (sub a x), ?_⟩
  · exact mem _ (L.si.wi.hlM p hp) fun h => L.ap.hl (List.mem_map.mpr ⟨p, hp, h⟩)
  · obtain ⟨xs, pl, r⟩ := L.ct
    exact rv_dict pl (fun x => by simpa using (List.mem_filter.mp x).2) (r.mono hid fun _ _ e => e)

noncomputable abbrev PostLd (w : World) (A : Around) (env : Env) (sc : Scope) (F ML M : List Addr) (Hs : HL) (s : Shared) (vs : Vars) (D : Addr) (n : Nat) (S : List Addr) (Q : Shared → Prop) (σ : List (Str × PV) × Wd) : Prop :=
  ∀ M' Hs' h' tk, Go S Hs F M s.heap Hs' M' h' → Ld w A env sc F ML M' Hs' vs D σ.1 σ.2 { s with heap := h', toks := tk } n → Q { s with heap := h', toks := tk }
theorem Vr.rv' {P : Params} {h : Heap} {v : Value} (r : Vr P h M Hs ML v pv) (hm : notMut pv = true) : Rv P (Hid h M) Hs v pv := r.rv fun xs e => by subst e; cases hm
inductive DcAt (w : World) (A : Around) (env : Env) (sc : Scope) (F ML : List Addr) (D : Addr) (vs : Vars) (n : Nat) (S : List Addr) (Hs : HL) (M : List Addr) (s : Shared) (xs : List PyData) (St : Nat → Heap → Prop) (R : List PyData → List (Str × PV) × Wd → Prop) (k : Nat) (s' : Shared) : Prop
  | mk {j M' Hs' h' tk σ} : s' = { s with heap := h', toks := tk } → j ≤ xs.length → k = xs.length - j → Go S Hs F M s.heap Hs' M' h' → Ld w A env sc F ML M' Hs' vs D σ.1 σ.2 { s with heap := h', toks := tk } n → St j h' → R (xs.drop j) σ → DcAt w A env sc F ML D vs n S Hs M s xs St R k s'
/-- an item is set -/
theorem put_snd {kvs : List (Str × PV)} {a : Str} {b : PV} {ta : Tok} {vv : Value} {P : Unit → Shared → Prop} (L : Ld w A env sc F ML M Hs vs D kvs wd s n) (r : Vr w.params s.heap M Hs ML vv b) (z1 : kvs.lookup a = none) (z2 : notMut b = true) (z3 : kvs.length ≤ small)
    (hP : ∀ h', Go (TB env sc D) Hs F M s.heap Hs M h' → Ld w A env sc F ML M Hs vs D (kvs ++ [(a, b)]) wd { s with heap := h', toks := s.toks + 1 } n → P () { s with heap := h', toks := s.toks + 1 }) : wpAny (model PG w) A (dictSet D (.str a ta) vv) P X s := by
  obtain ⟨kvsV, hd, rk⟩ := L.ct
  have hlen := rk.keys
  have hsz : kvsV.length = kvs.length := by rw [← List.length_map (f := (·.1)) (as := kvsV), hlen, List.length_map]
  refine wpAny_dictSet_pairs (knd := strKind PG w) (k := a) (strKind_is _ _ _ _) hd (fun h₆ hd₆ sb => ?_) (size_small (by rw [hsz]; exact z3))
  have p₆ := sb_pv sb
  have h1 : ∀ a ∈ [D], a ∈ M ∧ Apart env F ML Hs a := one_all ⟨L.dm, L.ap⟩
  rw [stored_new (by rw [hlen]; exact look_none (by rw [z1]; rfl))] at hd₆
  have hid₆ := p₆.hid (M := M) (M' := M) (fun a x => (h1 a x).1) fun _ x => .inl x
  exact hP h₆ (p₆.go (fun _ x => x) (fun _ x => .inl x) _ _ _ (one_all (.head _))) ⟨L.si.pvt p₆ h1 (fun _ x => x) (fun _ x => .inl x) (fun a x => by rw [sb.1]; exact L.si.mt a x) (s.toks + 1), L.dm, L.ap, _, hd₆, (rk.mono hid₆ fun _ _ e => e).app (.cons ⟨rfl, (r.rv' z2).mono hid₆ fun _ _ e => e⟩ .nil)⟩
/-- one turn of a dict's clause -/
theorem dclause_turn {t k v : Expr} {σ σ' : List (Str × PV) × Wd} {x : PyData} {xs : List PyData} {u : Value} {P : Shared → Prop} (hE : EvS w n E.ev) (L : Ld w A env sc F ML M Hs vs D σ.1 σ.2 s n) (rv : Vr w.params s.heap M Hs ML u (.dat x)) (e : DClause E sc t k v vs (x :: xs) σ σ')
    (fin : ∀ M₅ Hs₅ h₅ tk₅ σ₅, Go (TB env sc D) Hs F M s.heap Hs₅ M₅ h₅ → Ld w A env sc F ML M₅ Hs₅ vs D σ₅.1 σ₅.2 { s with heap := h₅, toks := tk₅ } n → DClause E sc t k v vs xs σ₅ σ' → P { s with heap := h₅, toks := tk₅ }) :
    wpAny (model PG w) A (assign t env u) (fun _ s₂ => wpAny (model PG w) A (innerD k v (.ref D) env) (fun _ s₄ => P s₄) (Nt w A env R) s₂) (Nt w A env R) s := by
  cases e with
  | cons q1 q2 q3 z1 z2 z3 e =>
    refine assign_snd L.si (bindF_bind q1) rv fun h₃ tk₃ p₃ I₃ => ?_
    have L₃ := L.own p₃ I₃
    unfold innerD
    refine wpAny_bind (hE L₃.si q2 fun kv Hs₄ M₄ h₄ tk₄ G₄ W₄ m₄ r₄ => ?_)
    have L₄ := L₃.goE G₄ W₄ m₄ tk₄
    obtain ⟨ta, rfl⟩ := r₄.rd.str_inv
    refine wpAny_bind (wpAny_holding (hE L₄.si q3 fun vv Hs₅ M₅ h₅ tk₅ G₅ W₅ m₅ r₅ => ?_))
    refine wpAny_bind (wpAny_standAt (wpAny_holding (put_snd (L₄.goE G₅ W₅ m₅ tk₅) r₅ z1 z2 z3 fun h₆ G₆ L₆ => ?_)))
    exact fin M₅ Hs₅ h₆ _ (σ.1 ++ [_], _) ((((p₃.go (fun _ x => x) (fun _ x => .inl x) _ _ _ fun _ x => .tail _ x).trans' (G₄.weaken fun _ x => nomatch x)).trans' (G₅.weaken fun _ x => nomatch x)).trans' G₆) (L₆.weak (bindF_look q1)) e
theorem dclause_snd {t i k v : Expr} {σ σ' : List (Str × PV) × Wd} {xs : List PyData} {sc₀ : Scope} {pos : Pos} {I : Addr} {ax : List Addr} {P : Nat → Value → Prop} {St : Nat → Heap → Prop}
    (hE : EvS w n E.ev) (L : Ld w A env sc F ML M Hs vs D σ.1 σ.2 s n)
    (It : Itr w A I ax xs.length P St) (st : St 0 s.heap) (hI : I ∈ M) (ap : Apart env F ML Hs I) (hD : I ≠ D) (hax : ∀ b ∈ ax, b ∉ M ∧ b < s.heap.objs.size) (hP : ∀ i v, i < xs.length → P i v → ∃ d, xs[i]? = some d ∧ Rd s.heap M v d)
    (e : DClause E sc t k v vs xs σ σ') (hR : PostLd w A env sc F ML M Hs s vs D n (I :: TB env sc D) (R (.ok .next)) σ') :
    codeAny (model PG w) A (.compLoop (.DictComp k v [⟨t, i, [], 0⟩] sc₀ pos) 0 (.ref I) (.ref D) env) R s := by
  refine compLoop_D (DcAt w A env sc F ML D vs n (I :: TB env sc D) Hs M s xs St fun ds σ => DClause E sc t k v vs ds σ σ') ?_ (xs.length - 0) ⟨rfl, Nat.zero_le _, rfl, Go.refl _ _ _ _ _, L, st, e⟩
  rintro _ s' ⟨rfl, hj, rfl, G₁, L₁, st₁, e₁⟩
  rename_i j M₁ Hs₁ h₁ tk₁ σj
  have ap₁ := ap.go G₁ (L.si.mt I hI)
  have step : ∀ {h₂ tk₂}, Pv [I] h₁ h₂ → Go (I :: TB env sc D) Hs F M s.heap Hs₁ M₁ h₂ ∧ Ld w A env sc F ML M₁ Hs₁ vs D σj.1 σj.2 { s with heap := h₂, toks := tk₂ } n := fun {h₂ tk₂} p₂ => ⟨G₁.trans' (p₂.go (fun _ x => x) (fun _ x => .inl x) _ _ _ one_mem), L₁.one (tk := tk₂) p₂ (G₁.ms I hI) ap₁ hD⟩
  rcases Nat.lt_or_ge j xs.length with hlt | hge
  · refine wpAny_sz (It.W.item j _ _ _ hlt st₁ fun u h₂ tk₂ hv st₂ kp₂ hz₂ => ?_)
    obtain ⟨G₂, L₂⟩ := step (tk₂ := tk₂) ⟨fun a o q e => kp₂ a o q e, hz₂⟩
    obtain ⟨x, hx, rx⟩ := hP j u hlt hv
    rw [drop_at hx] at e₁
    exact It.own t _ _ _ _ _ st₂ (dclause_turn (P := fun s' => ∃ m, m < xs.length - j ∧ DcAt w A env sc F ML D vs n (I :: TB env sc D) Hs M s xs St (fun ds σ => DClause E sc t k v vs ds σ σ') m s') hE L₂ (rx.hid (G₂.hid L.si.ei.in2 (tb_M L.si hI L.dm))).vr e₁ fun M₅ Hs₅ h₅ tk₅ σ₅ G₅ L₅ e₅ =>
      ⟨xs.length - (j + 1), Nat.sub_lt_sub_left hlt (Nat.lt_succ_self j), rfl, hlt, rfl, G₂.trans' (G₅.weaken fun _ x => .tail _ x), L₅, tb_keep It hax G₂ G₅ hD ap₁ L₂.si L₂.dm st₂, e₅⟩)
  · cases Nat.le_antisymm hj hge
    rw [List.drop_length] at e₁
    cases e₁
    refine wpAny_sz (It.W.done _ _ _ st₁ fun h₂ tk₂ kp₂ hz₂ => ?_)
    obtain ⟨G₂, L₂⟩ := step (tk₂ := tk₂) ⟨fun a o q e => kp₂ a o q e, hz₂⟩
    exact hR M₁ Hs₁ h₂ tk₂ G₂ L₂
end
section
variable {w : World} {A : Around} {env : Env} {sc sc' : Scope} {F ML M M' T : List Addr} {Hs Hs' : HL} {vs vs' : Vars} {wd wd' : Wd} {s : Shared} {n : Nat} {h' : Heap} {pv : PV} {Q : Value → Shared → Prop} {X : Value → Shared → Prop} {E : Ev} {D : Addr} {ds : List PyData} {R : Result → Shared → Prop}

theorem dictcomp_case {k v : Expr} {g : Comprehension} {gs : List Comprehension} {pos : Pos} {xs : List PyData} {r : List (Str × PV) × Wd} {wd₁ : Wd} (hE : EvS w n E.ev) (I : Si w A env sc F ML M Hs vs wd s n) (hp : plainScope sc sc' = true)
    (h1 : ItersOf E sc vs g.iter wd xs wd₁) (h2 : DctOf E sc' k v (g :: gs) xs (seenIn sc' vs) wd₁ r) (hQ : PostE w F ML M Hs s Q (.dct r.1) r.2) :
    wpAny (model PG w) A (eval (.DictComp k v (g :: gs) sc' pos) env) Q X s := by
  obtain ⟨k1, k2, k3⟩ := plain_kind hp
  have hfin : FinC w A F M Hs s X none Q r.2 (.dct r.1) := fin_plain hQ
  have key : ∃ t it, g = ⟨t, it, [], 0⟩ ∧ gs = [] ∧ DClause E sc' t k v (seenIn sc' vs) xs ([], wd₁) r := by
    cases h2 with
    | mk h => exact ⟨_, _, rfl, rfl, h⟩
  clear h2
  obtain ⟨t, it, rfl, rfl, h2⟩ := key
  rw [arm_eval_DictComp]
  refine wpAny_comprehension_free (use := none) (g := ⟨t, it, [], 0⟩) (gs := []) rfl (fun x => folded_plain (itersOf_notSet h1) x) (clos_eq (clos_ok I hp)) k1 (fun x hx hl => ?_) ?_
  · have := k2 x.1 x.2 hx
    rw [hl] at this
    exact this
  refine iters_snd hE I h1 fun It ax P St Hs₁ M₁ h₁ tk₁ G₁ W₁ m₁ a1 a2 a3 ItW st hax hP => ?_
  have I₁ := I.go G₁ W₁ m₁ tk₁
  refine wpAny_newObj_type ?_ (by size_fits)
  obtain ⟨G₂, W₂, m₂, d₂⟩ := pushed I₁ { cls := .type "dict", data := .dict #[] }
  have I₂ := I₁.go G₂ W₂ m₂ tk₁
  have hD : s.heap.objs.size ≤ h₁.objs.size := G₁.size
  refine cEnv_snd I₂ hp fun M₃ h₃ cenv hc p₃ hm₃ hf₃ own₃ ce₃ I₃ O₃ => ?_
  have sz₂ : (h₁.push { cls := .type "dict", data := .dict #[] }).objs.size = h₁.objs.size + 1 := Heap.size_push ..
  have G₃ : Go [] Hs₁ F (h₁.objs.size :: M₁) (h₁.push { cls := .type "dict", data := .dict #[] }) Hs₁ M₃ h₃ := p₃.go hm₃ hf₃ _ _ _ fun _ x => x
  have ItLt : It < h₁.objs.size := m₁ _ a1
  have cap : ∀ a, s.heap.objs.size ≤ a → a < h₁.objs.size + 1 → a ∉ Hs₁.map (·.2) → Apart cenv F ML Hs₁ a := fun a b1 b2 b3 => by
    have b2' : a < (h₁.push { cls := .type "dict", data := .dict #[] }).objs.size := by rw [sz₂]; exact b2
    refine ⟨b3, fun e => absurd b2' (Nat.not_lt.mpr (own₃ a (by rw [e]; exact .head _))), fun x c hc e => ?_, fun x => absurd (I.ei.ml.there a x) (Nat.not_lt.mpr b1), fun x => absurd (I.mt _ (I.ai.fM a x)) (Nat.not_lt.mpr b1)⟩
    subst e
    rcases ce₃ x a hc with h | ⟨y, h⟩
    · exact absurd b2' (Nat.not_lt.mpr h)
    · exact absurd (I.mt _ (I.ei.cells y a h).1) (Nat.not_lt.mpr b1)
  have apI : Apart cenv F ML Hs₁ It := cap It a2 (Nat.lt_succ_of_lt ItLt) a3
  have apD : Apart cenv F ML Hs₁ h₁.objs.size := cap _ hD (Nat.lt_succ_self _) d₂
  have L₃ : Ld w A cenv sc' F ML M₃ Hs₁ (seenIn sc' vs) h₁.objs.size [] wd₁ { s with heap := h₃, toks := tk₁ } n :=
    ⟨I₃, hm₃ _ (.head _), apD, [], dictOf_at (Heap.DictOf.new h₁) fun o e => p₃.keep _ _ (fun x => no_mem x) e, .nil⟩
  have keepI : ∀ b ∈ It :: ax, ∀ o, h₁.get? b = some o → h₃.get? b = some o := fun b _ o e => p₃.keep _ _ (fun x => no_mem x) (Heap.get?_push_of_some _ e)
  have st₃ := ItW.W.frame _ _ _ st keepI
  have hid₃ : ∀ a o, (Hid h₁ M₁).get? a = some o → (Hid h₃ M₃).get? a = some o := fun a o e => (G₂.trans' G₃).hid I₁.ei.in2 (fun _ x => no_mem x) a o e
  have G13 : Go [] Hs F M s.heap Hs₁ M₃ h₃ := G₁.trans' (G₂.trans' G₃)
  have hC : (cEnv sc' (h₁.push { cls := .type "dict", data := .dict #[] }).objs.size env).locals = cenv.locals := by rw [hc]
  have loop : codeAny (model PG w) A (.compLoop (.DictComp k v [⟨t, it, [], 0⟩] sc' pos) 0 (.ref It) (.ref h₁.objs.size) cenv) (compPost (model PG w) A X none Q (.ref h₁.objs.size) (cEnv sc' (h₁.push { cls := .type "dict", data := .dict #[] }).objs.size env).locals) { s with heap := h₃, toks := tk₁ } := by
    refine dclause_snd (σ := ([], wd₁)) hE L₃ ItW st₃ (hm₃ _ (.tail _ a1)) apI (Nat.ne_of_lt ItLt) (fun b hb => ?_) (fun i v hi hv => ?_) h2 fun M₄ Hs₄ h₄ tk₄ G₄ L₄ => ?_
    · obtain ⟨b1, b2⟩ := hax b hb
      refine ⟨(G₂.trans' G₃).mNew' b2 b1, Nat.lt_of_lt_of_le b2 (G₂.trans' G₃).size⟩
    · obtain ⟨x, hx, rx⟩ := hP i v hi hv
      exact ⟨x, hx, rx.hid hid₃⟩
    · have G : Go [] Hs F M s.heap Hs₄ M₄ h₄ := G13.trans G₄ fun a x => .inr (by
        rcases List.mem_cons.mp x with rfl | x
        · exact a2
        · rcases List.mem_cons.mp x with rfl | x
          · exact hD
          · exact Nat.le_trans hD (Nat.le_trans (by rw [sz₂]; exact Nat.le_succ _) (own₃ a x)))
      obtain ⟨e1, e2, e3, e4⟩ := ld_end (s₀ := s) L₄ hD G I.mt
      refine hfin _ _ _ Hs₄ h₄ tk₄ e1 e2 e3 e4 hD ?_ ?_ ?_ ?_
      · rw [hC]
        refine List.mem_filter.mpr ⟨L₄.si.ei.locM, ?_⟩
        simpa using fun h => L₄.ap.lc h.symm
      · rw [hC]
        exact Nat.le_trans hD (Nat.le_trans (by rw [sz₂]; exact Nat.le_succ _) (own₃ _ (.head _)))
      · rw [hC]; exact L₄.si.ei.locH
      · rw [hC]
        obtain ⟨m, hm, _⟩ := L₄.si.ei.ns
        exact ⟨m, hm⟩
  have fin := compStart_D loop (ItW.W.self _ _ _ (Nt w A cenv _) st₃ loop)
  rw [hc] at fin
  exact fin

theorem disp_keys {ev : Expr → Wd → PV → Wd → Prop} {ks : List (Option Expr)} {es : List Expr} {wd r wd'} (h : DispOf ev ks es wd r wd') : ks.all (·.isSome) = true ∧ ks.length = es.length ∧ r.length = ks.length := by
  induction h with
  | nil => exact ⟨rfl, rfl, rfl⟩
  | cons _ _ _ ih => exact ⟨ih.1, congrArg (· + 1) ih.2.1, congrArg (· + 1) ih.2.2⟩
theorem disp_snd {p : Pos} (hE : EvS w n E.ev) {ks : List (Option Expr)} {es : List Expr} {wd r wd'} (h : DispOf (fun e wd => E.ev sc e vs wd) ks es wd r wd') : ∀ {M Hs s} {Q : List (Value × Value) → Shared → Prop}, Si w A env sc F ML M Hs vs wd s n →
    (∀ xs Hs' M' h' tk, Go [] Hs F M s.heap Hs' M' h' → WInv w M' Hs' wd' h' → Mt h' M' → (∃ kvsV, Carries (strKind PG w) xs kvsV ∧ KvR w (Hid h' M') Hs' kvsV r) → Q xs { s with heap := h', toks := tk }) →
    wpAny (model PG w) A (evalPairs (pairTrees ks es env p)) Q X s := by
  induction h with
  | nil =>
    intro M Hs s Q I hQ
    exact pairTrees_nil_walk (hQ [] _ _ s.heap s.toks (Go.refl _ _ _ _ _) I.wi I.mt ⟨[], trivial, .nil⟩)
  | cons q hb _ ih =>
    intro M Hs s Q I hQ
    refine pairTrees_cons_walk (wpAny_Constant_str ?_)
    have I' := I.kp (Kp.refl _) (s.toks + 1)
    refine hE I' q fun vv Hs₁ M₁ h₁ tk₁ G₁ W₁ m₁ r₁ => ?_
    have I₁ := I'.go G₁ W₁ m₁ tk₁
    refine ih I₁ fun xs Hs₂ M₂ h₂ tk₂ G₂ W₂ m₂ r₂ => ?_
    obtain ⟨kvsV, c, rk⟩ := r₂
    refine hQ _ Hs₂ M₂ h₂ tk₂ (G₁.trans' G₂) W₂ m₂ ⟨(_, vv) :: kvsV, ⟨strKind_is _ _ _ _, rfl, c⟩, .cons ⟨rfl, ?_⟩ rk⟩
    exact ((r₁.rv' hb).go G₂ I₁.ei.in2 fun _ x => no_mem x)
theorem merged_nodup {kvs : List (Str × Value)} : ∀ {acc : List (Str × Value)}, ((acc ++ kvs).map (·.1)).Nodup → merged acc kvs = acc ++ kvs := by
  induction kvs with
  | nil => intro acc _; simp [merged]
  | cons p r ih =>
    intro acc h
    show merged (stored acc p.1 p.2) r = _
    have hn : p.1 ∉ acc.map (·.1) := fun m => by
      rw [List.map_append, List.nodup_append] at h
      exact h.2.2 _ m _ (by simp) rfl
    rw [stored_new hn]
    rw [ih (by rw [List.append_assoc]; exact h), List.append_assoc]; rfl
theorem dict_case {ks : List (Option Expr)} {es : List Expr} {p : Pos} {r : List (Str × PV)} (hE : EvS w n E.ev) (I : Si w A env sc F ML M Hs vs wd s n) (h : DispOf (fun e wd => E.ev sc e vs wd) ks es wd r wd') (hn : (r.map (·.1)).Nodup) (h1 : 1 ≤ ks.length) (h2 : ks.length ≤ 15)
    (hQ : PostE w F ML M Hs s Q (.dct r) wd') : wpAny (model PG w) A (eval (.Dict ks es p) env) Q X s := by
  obtain ⟨a1, a2, a3⟩ := disp_keys h
  obtain ⟨G₁, W₁, m₁, d₁⟩ := pushed I { cls := .type "dict", data := .dict #[] }
  have I₁ := I.go G₁ W₁ m₁ s.toks
  refine wpAny_Dict_walk (knd := strKind PG w) a1 a2 (fun e => by rw [e] at h1; cases h1) h2 ?_
  refine disp_snd hE h I₁ fun xs Hs₂ M₂ h₂ tk₂ G₂ W₂ m₂ r₂ => ?_
  obtain ⟨kvsV, c, rk⟩ := r₂
  have apD : Apart env F ML Hs s.heap.objs.size := apart_new (s' := s) I (Nat.le_refl _) d₁ rfl
  have ltD : s.heap.objs.size < (s.heap.push { cls := .type "dict", data := .dict #[] }).objs.size := by rw [Heap.size_push]; exact Nat.lt_succ_self _
  have apD₂ := apD.go G₂ ltD
  refine ⟨kvsV, c, dictOf_at (Heap.DictOf.new s.heap) fun o e => G₂.keep _ _ (fun x => no_mem x) apD.hl apD.fr e, fun h₃ hd₃ sb => ?_⟩
  have I₂ := I₁.go G₂ W₂ m₂ tk₂
  have hD₂ : s.heap.objs.size ∈ M₂ := G₂.ms _ (.head _)
  have p₃ := sb_pv sb
  have hid₃ := p₃.hid (M := M₂) (M' := M₂) (one_all hD₂) fun _ x => .inl x
  rw [merged_nodup (by rw [List.nil_append, rk.keys]; exact hn), List.nil_append] at hd₃
  have L : Ld w A env sc F ML M₂ Hs₂ vs s.heap.objs.size r wd' { s with heap := h₃, toks := tk₂ + xs.length } n :=
    ⟨I₂.pvt p₃ (one_all ⟨hD₂, apD₂⟩) (fun _ x => x) (fun _ x => .inl x) (fun a x => by rw [sb.1]; exact m₂ a x) _, hD₂, apD₂, kvsV, hd₃, rk.mono hid₃ fun _ _ e => e⟩
  have G : Go [] Hs F M s.heap Hs₂ M₂ h₃ := (G₁.trans' G₂).trans (p₃.go (fun _ x => x) (fun _ x => .inl x) [s.heap.objs.size] F Hs₂ fun _ x => x) (one_all (.inr (Nat.le_refl _)))
  obtain ⟨e1, e2, e3, e4⟩ := ld_end (s₀ := s) L (Nat.le_refl _) G I.mt
  exact hQ _ Hs₂ _ h₃ _ e1 e2 e3 (.inl e4)
end
noncomputable def fdIn (K : Frag) (a : Addr) : Option FuncData := match K.lookup a with
  | some ⟨_, _, .func fd, _⟩ => some fd
  | _ => none
theorem fdIn_get {K : Frag} {h : Heap} {a : Addr} {fd : FuncData} (X : K.In h) (e : fdIn K a = some fd) : ∃ o, h.get? a = some o ∧ o.data = .func fd := by
  unfold fdIn at e
  split at e
  · rename_i q
    cases e
    exact ⟨_, X _ _ q, rfl⟩
  · cases e
/-- the object at a is the def f of the text -/
structure FnOk (w : World) (a : Addr) (f : Str) : Prop where
  body : (fdIn (KF w) a).map (·.body) = some (.stmts (fnD f).2.1)
  scope : (fdIn (KF w) a).map (·.scope) = some (fnD f).2.2
  clo : (fdIn (KF w) a).map (·.closure) = some []
  glo : (fdIn (KF w) a).map (fun fd => (fd.globals, fd.builtins)) = some (mainGlobals, builtinsNs)
  code : (fdIn (KF w) a).map (fun fd => codeIn (KF w) fd.code fd.qualname) = some true
  name : nsIn (KF w) mainGlobals f = some (some (.ref a))
  keep : keepIn (KF w) (.ref a) = true
  kinds : ((fnD f).1.all fun p => ownKind (fnD f).2.2 p) = true
  nodup : (fnD f).1.Nodup
  bind : ∀ vals : List Value, vals.length = (fnD f).1.length → (fdIn (KF w) a).map (fun fd => bindArgs fd ⟨vals, []⟩) = some (pure ((fnD f).1.zip vals))
  sck : ((fnD f).2.2.kind == .function && !(fnD f).2.2.isCoroutine && !(fnD f).2.2.isGenerator && (fnD f).2.2.names.all fun x => x.2 != .free && kindIn (fnD f).2.2 x.1 == some x.2) = true
theorem valsS {vals : List Value} {n : Nat} (h : vals.length = n + 1) : ∃ a r, vals = a :: r ∧ r.length = n := by
  cases vals with
  | nil => exact nomatch h
  | cons a r => exact ⟨a, r, rfl, Nat.succ.inj h⟩
theorem vals1 {vals : List Value} (h : vals.length = 1) : ∃ a, vals = [a] := by
  obtain ⟨a, r, rfl, e⟩ := valsS h
  exact ⟨a, by rw [List.eq_nil_of_length_eq_zero e]⟩
theorem vals2 {vals : List Value} (h : vals.length = 2) : ∃ a b, vals = [a, b] := by
  obtain ⟨a, r, rfl, e⟩ := valsS h
  obtain ⟨b, rfl⟩ := vals1 e
  exact ⟨a, b, rfl⟩
theorem vals3 {vals : List Value} (h : vals.length = 3) : ∃ a b c, vals = [a, b, c] := by
  obtain ⟨a, r, rfl, e⟩ := valsS h
  obtain ⟨b, c, rfl⟩ := vals2 e
  exact ⟨a, b, c, rfl⟩
theorem vals4 {vals : List Value} (h : vals.length = 4) : ∃ a b c d, vals = [a, b, c, d] := by
  obtain ⟨a, r, rfl, e⟩ := valsS h
  obtain ⟨b, c, d, rfl⟩ := vals3 e
  exact ⟨a, b, c, d, rfl⟩
theorem fn_lay (w : World) : FnOk w 198 (Str.ofString "_law_lay") where
  body := by kernel_rfl!
  scope := by kernel_rfl!
  clo := by kernel_rfl!
  glo := by kernel_rfl!
  code := by kernel_rfl!
  name := by kernel_rfl!
  keep := by kernel_rfl!
  kinds := by kernel_rfl!
  nodup := by decide +kernel
  bind := fun vals h => by
    have h : vals.length = 1 := h
    obtain ⟨a, rfl⟩ := vals1 h
    kernel_rfl!
  sck := by kernel_rfl!
theorem fn_lacks (w : World) : FnOk w 203 (Str.ofString "_law_lacks") where
  body := by kernel_rfl!
  scope := by kernel_rfl!
  clo := by kernel_rfl!
  glo := by kernel_rfl!
  code := by kernel_rfl!
  name := by kernel_rfl!
  keep := by kernel_rfl!
  kinds := by kernel_rfl!
  nodup := by decide +kernel
  bind := fun vals h => by
    have h : vals.length = 2 := h
    obtain ⟨a, b, rfl⟩ := vals2 h
    kernel_rfl!
  sck := by kernel_rfl!
theorem fn_told (w : World) : FnOk w 210 (Str.ofString "_law_told") where
  body := by kernel_rfl!
  scope := by kernel_rfl!
  clo := by kernel_rfl!
  glo := by kernel_rfl!
  code := by kernel_rfl!
  name := by kernel_rfl!
  keep := by kernel_rfl!
  kinds := by kernel_rfl!
  nodup := by decide +kernel
  bind := fun vals h => by
    have h : vals.length = 3 := h
    obtain ⟨a, b, c, rfl⟩ := vals3 h
    kernel_rfl!
  sck := by kernel_rfl!
theorem fn_pull (w : World) : FnOk w 215 (Str.ofString "_law_pull") where
  body := by kernel_rfl!
  scope := by kernel_rfl!
  clo := by kernel_rfl!
  glo := by kernel_rfl!
  code := by kernel_rfl!
  name := by kernel_rfl!
  keep := by kernel_rfl!
  kinds := by kernel_rfl!
  nodup := by decide +kernel
  bind := fun vals h => by
    have h : vals.length = 4 := h
    obtain ⟨a, b, c, d, rfl⟩ := vals4 h
    kernel_rfl!
  sck := by kernel_rfl!
theorem fn_write (w : World) : FnOk w 222 (Str.ofString "_law_write") where
  body := by kernel_rfl!
  scope := by kernel_rfl!
  clo := by kernel_rfl!
  glo := by kernel_rfl!
  code := by kernel_rfl!
  name := by kernel_rfl!
  keep := by kernel_rfl!
  kinds := by kernel_rfl!
  nodup := by decide +kernel
  bind := fun vals h => by
    have h : vals.length = 3 := h
    obtain ⟨a, b, c, rfl⟩ := vals3 h
    kernel_rfl!
  sck := by kernel_rfl!
theorem fn_judge (w : World) : FnOk w 227 (Str.ofString "_law_judge") where
  body := by kernel_rfl!
  scope := by kernel_rfl!
  clo := by kernel_rfl!
  glo := by kernel_rfl!
  code := by kernel_rfl!
  name := by kernel_rfl!
  keep := by kernel_rfl!
  kinds := by kernel_rfl!
  nodup := by decide +kernel
  bind := fun vals h => by
    have h : vals.length = 2 := h
    obtain ⟨a, b, rfl⟩ := vals2 h
    kernel_rfl!
  sck := by kernel_rfl!
theorem fn_ring (w : World) : FnOk w 234 (Str.ofString "_law_ring") where
  body := by kernel_rfl!
  scope := by kernel_rfl!
  clo := by kernel_rfl!
  glo := by kernel_rfl!
  code := by kernel_rfl!
  name := by kernel_rfl!
  keep := by kernel_rfl!
  kinds := by kernel_rfl!
  nodup := by decide +kernel
  bind := fun vals h => by
    have h : vals.length = 3 := h
    obtain ⟨a, b, c, rfl⟩ := vals3 h
    kernel_rfl!
  sck := by kernel_rfl!
theorem fn_sure (w : World) : FnOk w 239 (Str.ofString "_law_sure") where
  body := by kernel_rfl!
  scope := by kernel_rfl!
  clo := by kernel_rfl!
  glo := by kernel_rfl!
  code := by kernel_rfl!
  name := by kernel_rfl!
  keep := by kernel_rfl!
  kinds := by kernel_rfl!
  nodup := by decide +kernel
  bind := fun vals h => by
    have h : vals.length = 3 := h
    obtain ⟨a, b, c, rfl⟩ := vals3 h
    kernel_rfl!
  sck := by kernel_rfl!
theorem fn_all (w : World) : FnOk w 244 (Str.ofString "_law_all") where
  body := by kernel_rfl!
  scope := by kernel_rfl!
  clo := by kernel_rfl!
  glo := by kernel_rfl!
  code := by kernel_rfl!
  name := by kernel_rfl!
  keep := by kernel_rfl!
  kinds := by kernel_rfl!
  nodup := by decide +kernel
  bind := fun vals h => by
    have h : vals.length = 3 := h
    obtain ⟨a, b, c, rfl⟩ := vals3 h
    kernel_rfl!
  sck := by kernel_rfl!
theorem fn_anew (w : World) : FnOk w 251 (Str.ofString "_law_anew") where
  body := by kernel_rfl!
  scope := by kernel_rfl!
  clo := by kernel_rfl!
  glo := by kernel_rfl!
  code := by kernel_rfl!
  name := by kernel_rfl!
  keep := by kernel_rfl!
  kinds := by kernel_rfl!
  nodup := by decide +kernel
  bind := fun vals h => by
    have h : vals.length = 2 := h
    obtain ⟨a, b, rfl⟩ := vals2 h
    kernel_rfl!
  sck := by kernel_rfl!
theorem look_cons {P : Str → Addr → Prop} {f x : Str} {a y : Addr} {r : List (Str × Addr)} (h0 : P x y) (hr : r.lookup f = some a → P f a) (h : ((x, y) :: r).lookup f = some a) : P f a := by
  rw [List.lookup_cons] at h
  cases q : f == x with
  | true => rw [q] at h; cases h; rw [eq_of_beq q]; exact h0
  | false => rw [q] at h; exact hr h
theorem law_fn (w : World) {f : Str} {a : Addr} (h : lawDefs.lookup f = some a) : FnOk w a f :=
  look_cons (P := fun f a => FnOk w a f) (fn_lay w) (look_cons (P := fun f a => FnOk w a f) (fn_lacks w) (look_cons (P := fun f a => FnOk w a f) (fn_told w) (look_cons (P := fun f a => FnOk w a f) (fn_pull w) (look_cons (P := fun f a => FnOk w a f) (fn_write w) (look_cons (P := fun f a => FnOk w a f) (fn_judge w) (look_cons (P := fun f a => FnOk w a f) (fn_ring w) (look_cons (P := fun f a => FnOk w a f) (fn_sure w) (look_cons (P := fun f a => FnOk w a f) (fn_all w) (look_cons (P := fun f a => FnOk w a f) (fn_anew w) (r := []) (fun h => none_ne (show none = some a from h))))))))))) h
noncomputable def FlR (w : World) (h : Heap) (M : List Addr) (Hs : HL) (ML : List Addr) (f : Flow) : Fl → Prop
  | .next => f = .next
  | .ret v => ∃ x, f = .ret x ∧ Vr w.params h M Hs ML x v
noncomputable abbrev PostX (w : World) (A : Around) (env : Env) (sc : Scope) (F ML M : List Addr) (Hs : HL) (s : Shared) (n : Nat) (Q : Flow → Shared → Prop) (fl : Fl) (vs' : Vars) (wd' : Wd) : Prop :=
  ∀ f Hs' M' ML' h' tk, Go (Own env sc ++ ML) Hs F M s.heap Hs' M' h' → (∀ a ∈ ML', a ∈ ML ∨ s.heap.objs.size ≤ a) → Si w A env sc F ML' M' Hs' vs' wd' { s with heap := h', toks := tk } n → FlR w h' M' Hs' ML' f fl → Q f { s with heap := h', toks := tk }
noncomputable def ExS (w : World) (n : Nat) (f : Scope → List Stmt → Vars → Wd → Fl → Vars → Wd → Prop) : Prop :=
  ∀ {A env sc F ML M Hs vs wd s body fl vs' wd'} {Q : Flow → Shared → Prop} {X}, Si w A env sc F ML M Hs vs wd s n → f sc body vs wd fl vs' wd' → PostX w A env sc F ML M Hs s n Q fl vs' wd' → wpAny (model PG w) A (execs body env) Q X s

section
variable {w : World} {A : Around} {env : Env} {sc sc' : Scope} {F F' ML M M' T : List Addr} {Hs Hs' : HL} {vs vs' : Vars} {wd wd' : Wd} {s : Shared} {n : Nat} {h h' : Heap} {pv : PV} {Q : Value → Shared → Prop} {X : Value → Shared → Prop} {E : Ev} {D : Addr} {ds : List PyData} {R : Result → Shared → Prop}

theorem Go.lessF {S : List Addr} (G : Go S Hs F' M h Hs' M' h') (hF : ∀ a ∈ F, a ∈ F') (hF' : ∀ a ∈ F', a ∈ F ∨ a ∈ S) : Go S Hs F M h Hs' M' h' :=
  ⟨fun a o ns nh nf e => G.keep a o ns nh (fun x => (hF' a x).elim nf ns) e, fun a ha ns nh o e => G.fr a (hF a ha) ns nh o e, G.size, G.ms, G.fresh, G.hs⟩

/-- an address that is turned no more -/
theorem drop_one {S₀ : List Addr} {h₀ : Heap} {Hs₀ : HL} {M₀ : List Addr} (hD : h₀.objs.size ≤ D) (G : Go S₀ Hs₀ F M₀ h₀ Hs M h) (hM₀ : Mt h₀ M₀) (W : WInv w M Hs wd h) (m : Mt h M) (hl : D ∉ Hs.map (·.2)) :
    Go S₀ Hs₀ F M₀ h₀ Hs (M.filter (· ≠ D)) h ∧ WInv w (M.filter (· ≠ D)) Hs wd h ∧ Mt h (M.filter (· ≠ D)) ∧ (∀ a o, (Hid h M).get? a = some o → (Hid h (M.filter (· ≠ D))).get? a = some o) ∧ D ∉ M.filter (· ≠ D) := by
  have sub : ∀ a ∈ M.filter (· ≠ D), a ∈ M := fun a x => (List.mem_filter.mp x).1
  have hid : ∀ a o, (Hid h M).get? a = some o → (Hid h (M.filter (· ≠ D))).get? a = some o := fun a o e => Hid.get (Hid.of e) fun x => Hid.off e (sub a x)
  have mem : ∀ a ∈ M, a ≠ D → a ∈ M.filter (· ≠ D) := fun a x h => List.mem_filter.mpr ⟨x, by simpa using h⟩
  refine ⟨⟨G.keep, G.fr, G.size, fun a x => mem a (G.ms a x) fun h => absurd (hM₀ a x) (Nat.not_lt.mpr (h ▸ hD)), fun a x => G.fresh a (sub a x), G.hs⟩, ⟨fun a o e => hid _ _ (W.kin a o e), W.tr.keeps hid, W.len, fun i p it e1 e2 => (W.hd i p it e1 e2).mv hid fun _ e => e, fun p hp => ?_, W.nd⟩, fun a x => m a (sub a x), hid, fun x => by simpa using (List.mem_filter.mp x).2⟩
  exact mem _ (W.hlM p hp) fun h => hl (List.mem_map.mpr ⟨p, hp, h⟩)

theorem zip_look {ps : List Str} {x : Str} {r : PV} : ∀ {pvs : List PV}, (ps.zip pvs).lookup x = some r → x ∈ ps := by
  induction ps with
  | nil => intro pvs h; simp at h
  | cons p ps ih =>
    intro pvs h
    induction pvs with
    | nil => simp at h
    | cons v pvs =>
      rw [List.zip_cons_cons, lookup_cons'] at h
      split at h
      · rename_i q; rw [q]; exact .head _
      · exact .tail _ (ih h)
theorem bindL_off {k : Str → Option NameKind} {x : Str} : ∀ {ps : List Str} {vals : List Value} {m : Str → Option Value}, x ∉ ps → bindL k (ps.zip vals) m x = m x
  | [], _, _, _ => rfl
  | _ :: _, [], _, _ => rfl
  | p :: ps, v :: vals, m, h => by
    rw [List.zip_cons_cons, bindL, bindL_off fun q => h (.tail _ q)]
    split
    · exact if_neg fun q => h (by rw [q]; exact .head _)
    · rfl
theorem bindC_off {k : Str → Option NameKind} {x : Str} : ∀ {ps : List Str} {vals : List Value} {m : Str → Option Value}, x ∉ ps → bindC k (ps.zip vals) m x = m x
  | [], _, _, _ => rfl
  | _ :: _, [], _, _ => rfl
  | p :: ps, v :: vals, m, h => by
    rw [List.zip_cons_cons, bindC, bindC_off fun q => h (.tail _ q)]
    split
    · rfl
    · exact if_neg fun q => h (by rw [q]; exact .head _)
theorem bind_at {Rel : Value → PV → Prop} {k : Str → Option NameKind} {x : Str} {pv : PV} {ps : List Str} : ∀ {vals : List Value} {pvs : List PV} {m cm : Str → Option Value}, ps.Nodup → All2 Rel vals pvs → (ps.zip pvs).lookup x = some pv →
    ∃ v, Rel v pv ∧ (k x = some .local → bindL k (ps.zip vals) m x = some v) ∧ (k x ≠ some .local → bindC k (ps.zip vals) cm x = some v) := by
  induction ps with
  | nil => intro _ _ _ _ _ _ h; cases h
  | cons p ps ih =>
    intro vals pvs m cm hn r h
    induction r with
    | nil => cases h
    | cons r rs =>
      rw [List.zip_cons_cons, lookup_cons'] at h
      rw [List.zip_cons_cons, bindL, bindC]
      rw [List.nodup_cons] at hn
      by_cases q : x = p
      · rw [if_pos q] at h
        subst q
        cases h
        refine ⟨_, r, fun hk => ?_, fun hk => ?_⟩
        · rw [bindL_off hn.1, if_pos hk, if_pos rfl]
        · rw [bindC_off hn.1, if_neg hk, if_pos rfl]
      · rw [if_neg q] at h
        exact ih hn.2 rs h

/-- the object at a is a def of the text: its names, its body, its scope -/
structure FnG (w : World) (a : Addr) (d : List Str × List Stmt × Scope) : Prop where
  fd : ∃ fd, fdIn (KF w) a = some fd ∧ fd.body = .stmts d.2.1 ∧ fd.scope = d.2.2 ∧ fd.closure = [] ∧ fd.globals = mainGlobals ∧ fd.builtins = builtinsNs ∧ codeIn (KF w) fd.code fd.qualname = true
  kinds : (d.1.all fun p => ownKind d.2.2 p) = true
  nodup : d.1.Nodup
  sck : (d.2.2.kind == .function && !d.2.2.isCoroutine && !d.2.2.isGenerator && d.2.2.names.all fun x => x.2 != .free && kindIn d.2.2 x.1 == some x.2) = true
/-- how the def at a takes its arguments -/
noncomputable def BindsG (w : World) (a : Addr) (args : Args) (binds : List (Str × Value)) : Prop :=
  ∀ fd, fdIn (KF w) a = some fd → ∀ s : Shared, (KF w).In s.heap → BindsTo s fd args binds
theorem FnG.of {f : Str} {a : Addr} (FO : FnOk w a f) : FnG w a (fnD f) := by
  have h1 := FO.body
  rw [Option.map_eq_some_iff] at h1
  obtain ⟨fd, e, h1⟩ := h1
  have h2 := FO.scope
  have h3 := FO.clo
  have h4 := FO.glo
  have h5 := FO.code
  rw [e, Option.map_some, Option.some.injEq] at h2 h3 h4 h5
  rw [Prod.mk.injEq] at h4
  exact ⟨⟨fd, e, h1, h2, h3, h4.1, h4.2, h5⟩, FO.kinds, FO.nodup, FO.sck⟩
theorem bindsG_of {f : Str} {a : Addr} (FO : FnOk w a f) {vals : List Value} (hv : vals.length = (fnD f).1.length) : BindsG w a ⟨vals, []⟩ ((fnD f).1.zip vals) := fun fd e s _ => by
  have := FO.bind vals hv
  rw [e, Option.map_some, Option.some.injEq] at this
  exact .of_eq this
/-- the arguments are taken, from one state to another -/
noncomputable def BindsFrom (s₀ s : Shared) (fd : FuncData) (args : Args) (binds : List (Str × Value)) : Prop :=
  ∀ (M : Model) (A : Around) (E : Value → Shared → Prop) (Q : List (Str × Value) → Shared → Prop), Q binds s → wpAny M A (bindArgs fd args) Q E s₀
theorem codeAny_call_cellsB {prog : Program} {w : World} {A : Around} {s₀ s : Shared} {R : Result → Shared → Prop} {a : Addr} {o : Obj} {fd : FuncData} {body : List Stmt} {args : Args} {binds : List (Str × Value)}
    (hroom : A.depth < recursionLimit) (ho : s₀.heap.get? a = some o) (hdata : o.data = .func fd) (hlim : s.heap.NoLimit) (hcd : s₀.heap.CodeRec fd.code fd.qualname)
    (hbody : fd.body = .stmts body) (hbind : BindsFrom s₀ s fd args binds) (hclo : fd.closure = [])
    (hkind : ∀ x ∈ binds, fd.scope.names.lookup x.1 = some .local ∨ (fd.scope.names.lookup x.1 = some .cell ∧ ((cellsFrom (s.heap.objs.size + 1) fd.scope.names []).lookup x.1).isSome = true))
    (h : ∀ s₁, InCallC s (callEnvC fd s.heap.objs.size a).locals (bindL (callEnvC fd s.heap.objs.size a).kindOf binds fun _ => none) (callEnvC fd s.heap.objs.size a).cells
        (bindC (callEnvC fd s.heap.objs.size a).kindOf binds fun _ => none) s₁ →
      wpAny (model prog w) (A.deeper (callEnvC fd s.heap.objs.size a)) (execs body (callEnvC fd s.heap.objs.size a)) (fun f s' => R (.ok (.ret (match f with | .ret v => v | _ => .none))) s')
        (fun e s' => wpAny (model prog w) (A.deeper (callEnvC fd s.heap.objs.size a)) (leaving (callEnvC fd s.heap.objs.size a) e) (fun _ s'' => R (.error e) s'') (fun e' s'' => R (.error e') s'') s') s₁)
    (hco : fd.scope.isCoroutine = false := by rfl) (hgen : fd.scope.isGenerator = false := by rfl) (hk : fd.scope.kind = .function := by rfl) :
    codeAny (model prog w) A (.call (.ref a) args) R s₀ := by
  refine codeAny_call_function hroom ho hdata hco hgen hbody hcd (hbind _ _ _ _ ?_)
  rw [hclo]
  refine wpAny_newFunctionEnv_cells hk hkind fun env he s' x => ?_
  subst he
  exact ⟨hlim.keeps x.toInCall.keep, codeAny_func (h s' x)⟩
/-- what stands, with no frame in sight -/
structure Sb (w : World) (A : Around) (F M : List Addr) (Hs : HL) (wd : Wd) (s : Shared) (n : Nat) : Prop where
  ai : AInv A F M s.heap n
  wi : WInv w M Hs wd s.heap
  mt : Mt s.heap M
  fh : ∀ a ∈ F, a ∉ Hs.map (·.2)
theorem Si.sb (I : Si w A env sc F ML M Hs vs wd s n) : Sb w A F M Hs wd s n := ⟨I.ai, I.wi, I.mt, I.fh⟩
theorem Sb.in2 (I : Sb w A F M Hs wd s n) : In2 Hs F M := ⟨I.wi.hlM, I.ai.fM⟩
theorem Sb.pv0 (I : Sb w A F M Hs wd s n) (p : Pv [] s.heap h') (hm : ∀ a ∈ M, a ∈ M') (hf : ∀ a ∈ M', a ∈ M ∨ s.heap.objs.size ≤ a) (m : Mt h' M') (tk : Nat) : Sb w A F M' Hs wd { s with heap := h', toks := tk } n :=
  ⟨I.ai.go (p.go hm hf [] F Hs fun _ x => x) (fun _ _ x => no_mem x) I.fh, I.wi.pvt p (fun _ x => no_mem x) (fun _ x => no_mem x) hm hf, m, I.fh⟩
theorem own_look {L : Nat} {sc : Scope} {x : Str} (h : ownKind sc x = true) : sc.names.lookup x = some .local ∨ (sc.names.lookup x = some .cell ∧ ∃ c, (cellsFrom L sc.names []).lookup x = some c) := by
  rcases ownKind_inv h with q | q
  · exact .inl q
  · exact .inr ⟨q, cells_have sc.names L [] (.inl (mem_of_look q))⟩
theorem notMut_rv {vals : List Value} {pvs : List PV} {P : Params} {g : Heap} (r : All2 (Vr P g M Hs ML) vals pvs) (hm : pvs.all notMut = true) : All2 (Rv P (Hid g M) Hs) vals pvs := by
  induction r with
  | nil => exact .nil
  | cons r rs ih => exact .cons (r.rv' (and2 hm).1) (ih (and2 hm).2)
/-- a frame's environment, and what its scope says -/
structure CeOf (ce : Env) (L : Addr) (sc : Scope) : Prop where
  l : ce.locals = L
  s : ce.scope = sc
  c : ce.cells = cellsFrom (L + 1) sc.names []
  f : ce.frame = some L
  g : ce.globals = mainGlobals
  b : ce.builtins = builtinsNs
  k : ∀ x, ce.kindOf x = sc.names.lookup x
  fn : sc.kind = .function
  nm : ∀ x ∈ sc.names, ¬x.2 = .free ∧ kindIn sc x.1 = some x.2
/-- the heap with a frame behind the old ones, and the addresses that may turn -/
structure NewAt (h h₁ : Heap) (M M₁ : List Addr) (Hs : HL) : Prop where
  p : Pv [] h h₁
  lt : h.objs.size < h₁.objs.size
  hm : ∀ a ∈ M, a ∈ M₁
  hf : ∀ a ∈ M₁, a ∈ M ∨ h.objs.size ≤ a
  new : ∀ a, h.objs.size ≤ a → a < h₁.objs.size → a ∈ M₁
  mt : Mt h₁ M₁
  hH : ∀ a, h.objs.size ≤ a → a ∉ Hs.map (·.2)
theorem newAt {h h₁ : Heap} (m : Mt h M) (hl : ∀ p ∈ Hs, p.2 ∈ M) (p : Pv [] h h₁) (lt : h.objs.size < h₁.objs.size) : ∃ M₁, NewAt h h₁ M M₁ Hs := by
  refine ⟨(List.range (h₁.objs.size - h.objs.size)).map (h.objs.size + ·) ++ M, p, lt, fun a x => List.mem_append_right _ x, fun a x => ?_, fun a h1 h2 => List.mem_append_left _ (List.mem_map.mpr ⟨a - h.objs.size, List.mem_range.mpr (Nat.sub_lt_sub_right h1 h2), Nat.add_sub_cancel' h1⟩), fun a x => ?_, fun a h x => ?_⟩
  · rcases List.mem_append.mp x with x | x
    · obtain ⟨i, _, rfl⟩ := List.mem_map.mp x
      exact .inr (Nat.le_add_right _ _)
    · exact .inl x
  · rcases List.mem_append.mp x with x | x
    · obtain ⟨i, hi, rfl⟩ := List.mem_map.mp x
      exact Nat.add_lt_of_lt_sub' (List.mem_range.mp hi)
    · exact Nat.lt_of_lt_of_le (m a x) p.size
  · obtain ⟨q, hq, rfl⟩ := List.mem_map.mp x
    exact absurd (m _ (hl q hq)) (Nat.not_lt.mpr h)
theorem CeOf.look {ce : Env} {L : Addr} (C : CeOf ce L sc) {x : Str} {c : Addr} (h : ce.cells.lookup x = some c) : L < c := by
  rw [C.c] at h
  rcases cells_look _ _ _ h with ⟨_, h, _⟩ | h
  · exact Nat.lt_of_succ_le h
  · exact none_ne h
/-- the callee's state at its entry -/
theorem callee_in {ce : Env} {ps : List Str} {pvs : List PV} {h₁ : Heap} {tk₁ : Nat} {M₁ : List Addr} {Bl Bc : Str → Option Value} (C : CeOf ce s.heap.objs.size sc) (N : NewAt s.heap h₁ M M₁ Hs) (ic : InCallC s ce.locals Bl ce.cells Bc { s with heap := h₁, toks := tk₁ })
    (I : Sb w A F M Hs wd s (n + 1)) (hb : ∀ x pv, (ps.zip pvs).lookup x = some pv → ∃ v, Rv w.params (Hid s.heap M) Hs v pv ∧ (ce.kindOf x = some .local → Bl x = some v) ∧ (ce.kindOf x ≠ some .local → Bc x = some v)) (hk : ∀ x ∈ ps, ownKind sc x = true) : Si w (A.deeper ce) ce sc (s.heap.objs.size :: F) [] M₁ Hs (ps.zip pvs) wd { s with heap := h₁, toks := tk₁ } n := by
  have I' := I.pv0 N.p N.hm N.hf N.mt tk₁
  have mem : ∀ a ∈ s.heap.objs.size :: F, a ∈ M₁ := fun a ha => by
    rcases List.mem_cons.mp ha with rfl | ha
    · exact N.new _ (Nat.le_refl _) N.lt
    · exact N.hm _ (I.ai.fM a ha)
  refine ⟨⟨by rw [C.s]; exact C.fn, C.g, C.b, fun x k e => .inl (by rw [C.k]; exact e)⟩, ⟨I.ai.handled, ?_, mem, ?_, ?_⟩, I'.wi, ⟨⟨_, ic.toInCall.ns, fun x pv q => ?_⟩, ?_, ?_, fun x c hc => ?_, fun x hx => ?_, ?_, ⟨(fun _ x => no_mem x), (fun _ x => no_mem x), (fun _ x => no_mem x), (fun _ x => no_mem x)⟩, (fun _ x => no_mem x), ⟨fun p hp => N.hm _ (I.wi.hlM p hp), mem⟩⟩, N.mt, fun a ha => ?_⟩
  · obtain ⟨fs, e1, e2, e3⟩ := I'.ai.frames
    refine ⟨ce :: fs, by rw [show (A.deeper ce).frames = A.frames.map (ce :: ·) from rfl, e1]; rfl, ?_, fun e he => ?_⟩
    · rw [List.filterMap_cons, C.f]
      exact congrArg _ e2
    · rcases List.mem_cons.mp he with rfl | he
      · exact ⟨(by rw [C.s, C.fn]; intro h; cases h), _, _, C.f, C.l ▸ ic.toInCall.ns⟩
      · exact e3 e he
  · have := I.ai.depth
    show A.depth + 1 + n + 20 < _
    omega
  · have := I.ai.units
    show A.units + 3 + 3 * n + 300 < _
    omega
  · obtain ⟨v, rv, b1, b2⟩ := hb x pv q
    refine ⟨v, .inl (rv.go (N.p.go N.hm N.hf [] F _ fun _ x => x) I.in2 fun _ x => no_mem x), ?_⟩
    rcases own_look (L := s.heap.objs.size + 1) (hk x (zip_look q)) with k | ⟨k, c, hc⟩
    · exact .inl ⟨by rw [C.k]; exact k, b1 (by rw [C.k]; exact k)⟩
    · refine .inr ⟨.inl (by rw [C.k]; exact k), c, by rw [C.c]; exact hc, ?_⟩
      have := ic.cell x c (by rw [C.c]; exact hc)
      rw [b2 (by rw [C.k, k]; intro h; cases h)] at this
      exact this
  · rw [C.l]; exact N.new _ (Nat.le_refl _) N.lt
  · rw [C.l]; exact N.hH _ (Nat.le_refl _)
  · have c1 := C.look hc
    exact ⟨N.new _ (Nat.le_of_lt c1) (ic.cell x c hc).lt, N.hH _ (Nat.le_of_lt c1), by rw [C.l]; exact (Nat.ne_of_lt c1).symm, _, ic.cell x c hc⟩
  · rw [C.c]
    rw [C.k] at hx
    rcases hx with h | h
    · exact cells_have _ _ _ (.inl (mem_of_look h))
    · exact absurd rfl (C.nm _ (mem_of_look h)).1
  · rw [C.c]
    exact cells_inj _ _ _ (fun x c h => none_ne h) fun x y c h => none_ne h
  · rcases List.mem_cons.mp ha with rfl | ha
    · exact N.hH _ (Nat.le_refl _)
    · exact I.fh a ha
/-- the callee's end -/
theorem callee_out {fl : Fl} {S₀ : List Addr} {Rx : Flow → Heap → List Addr → Prop} {Hs₂ : HL} {M₂ ML₂ : List Addr} {h₂ : Heap} {fo : Flow} {tk₂ : Nat} (mt : Mt s.heap M) (G : Go S₀ Hs F M s.heap Hs₂ M₂ h₂) (W₂ : WInv w M₂ Hs₂ wd' h₂) (m₂ : Mt h₂ M₂) (hml : ∀ a ∈ ML₂, s.heap.objs.size ≤ a) (hmh : ∀ a ∈ ML₂, a ∉ Hs₂.map (·.2)) (fr : FlR w h₂ M₂ Hs₂ ML₂ fo fl) (rx : Rx fo h₂ M₂)
    (hQ : ∀ v Hs' M' h' tk, Go S₀ Hs F M s.heap Hs' M' h' → WInv w M' Hs' wd' h' → Mt h' M' → Vr w.params h' M' Hs' ML v (retV fl) → ((∀ xs, fl ≠ .ret (.mut xs)) → ∃ f, Rx f h' M' ∧ (f = .ret v ∨ f = .next)) → Q v { s with heap := h', toks := tk }) : Q (match (generalizing := false) fo with | .ret v => v | _ => .none) { s with heap := h₂, toks := tk₂ } := by
  cases fl with
  | next =>
    obtain rfl : fo = .next := fr
    exact hQ .none Hs₂ M₂ h₂ tk₂ G W₂ m₂ Rd.none.vr fun _ => ⟨_, rx, .inr rfl⟩
  | ret v =>
    obtain ⟨x, rfl, r⟩ := fr
    rcases r with r | ⟨l, xs, k, ys, as, rfl, rfl, hl, e1, e2⟩
    · have hv : retV (.ret v) = v := by
        cases v with
        | «mut» => exact r.shape.elim
        | _ => rfl
      exact hQ x Hs₂ M₂ h₂ tk₂ G W₂ m₂ (by rw [hv]; exact .inl r) fun _ => ⟨_, rx, .inl rfl⟩
    · obtain ⟨d1, d2, d3, d4, d5⟩ := drop_one (hml l hl) G mt W₂ m₂ (hmh l hl)
      exact hQ _ Hs₂ _ h₂ tk₂ d1 d2 d3 (Rd.list ⟨_, e1, rfl, _, rfl⟩ d5 ⟨as, ReadsAll.keeps d4 e2⟩).vr fun h => absurd rfl (h _)
theorem fn_codeS {d : List Str × List Stmt × Scope} {a : Addr} {args : Args} {vals : List Value} {pvs : List PV} {fl : Fl} {S₀ : List Addr} {Rx : Nat → Flow → Heap → List Addr → Prop} (hRx : ∀ i j f h M, i ≤ j → Rx j f h M → Rx i f h M) {s₀ : Shared} (K₀ : (KF w).In s₀.heap) (FO : FnG w a d) (hB : ∀ fd, fdIn (KF w) a = some fd → BindsFrom s₀ s fd args (d.1.zip vals))
    (hX : ∀ {A env F' M' s'} {Q : Flow → Shared → Prop} {X}, Go [] Hs F' M s.heap Hs M' s'.heap → (∀ a, a < s.heap.objs.size → a ∉ F → a ∉ F' ∧ a ≠ env.locals ∧ ∀ x c, env.cells.lookup x = some c → a ≠ c) → (∃ outer, A.frames = some (env :: outer)) ∧ env.frame = some env.locals → Si w A env d.2.2 F' [] M' Hs (d.1.zip pvs) wd s' n →
      (∀ f Hs' M'' ML' h' tk, Go (Own env d.2.2 ++ S₀) Hs F' M' s'.heap Hs' M'' h' → (∀ a ∈ ML', s'.heap.objs.size ≤ a) → Si w A env d.2.2 F' ML' M'' Hs' vs' wd' { s' with heap := h', toks := tk } n → FlR w h' M'' Hs' ML' f fl → Rx s'.heap.objs.size f h' M'' → Q f { s' with heap := h', toks := tk }) → wpAny (model PG w) A (execs d.2.1 env) Q X s')
    (I : Sb w A F M Hs wd s (n + 1)) (r : All2 (Vr w.params s.heap M Hs ML) vals pvs) (hl : d.1.length = pvs.length) (hm : pvs.all notMut = true) (hv : retV fl = pv)
    (hQ : ∀ v Hs' M' h' tk, Go S₀ Hs F M s.heap Hs' M' h' → WInv w M' Hs' wd' h' → Mt h' M' → Vr w.params h' M' Hs' ML v pv → ((∀ xs, fl ≠ .ret (.mut xs)) → ∃ f, Rx s.heap.objs.size f h' M' ∧ (f = .ret v ∨ f = .next)) → Q v { s with heap := h', toks := tk }) :
    codeAny (model PG w) A (.call (.ref a) args) (fun r s' => match r with | .ok (.ret v) => Q v s' | .ok _ => False | .error e => X e s') s₀ := by
  obtain ⟨fd, hfd, hb, hs, hc, hg, hbl, hcd⟩ := FO.fd
  obtain ⟨o, ho, hdat⟩ := fdIn_get K₀ hfd
  have hsck := FO.sck
  rw [← hs] at hsck
  obtain ⟨hsck, hnames⟩ := and2 hsck
  obtain ⟨hk, hco, hgen⟩ := and3 hsck
  have hk := eq_of_beq hk
  have hco : fd.scope.isCoroutine = false := (Bool.not_eq_true' _).mp hco
  have hgen : fd.scope.isGenerator = false := (Bool.not_eq_true' _).mp hgen
  rw [List.all_eq_true] at hnames
  have hkinds := List.all_eq_true.mp FO.kinds
  rw [← hs] at hkinds hX
  have rv := notMut_rv r hm
  have nolim : s.heap.NoLimit := by
    obtain ⟨_, _, _, _, h3, _⟩ := I.wi.tr
    exact h3.keeps fun a o e => Hid.of e
  refine codeAny_call_cellsB (by have := I.ai.depth; omega) ho hdat nolim (codeRec_of K₀ hcd) hb (hB fd hfd) hc (fun x hx => ?_) (fun s₁ ic => ?_) hco hgen hk
  · rcases own_look (L := s.heap.objs.size + 1) (hkinds _ (List.of_mem_zip hx).1) with h | ⟨h, c, e⟩
    · exact .inl h
    · exact .inr ⟨h, by rw [e]; rfl⟩
  -- the callee
  obtain ⟨h₁, tk₁, rfl, kp₁⟩ := ic.done
  have C : CeOf (callEnvC fd s.heap.objs.size a) s.heap.objs.size fd.scope := ⟨rfl, rfl, rfl, rfl, hg, hbl, fun _ => rfl, hk, fun x hx => ⟨bne_iff_ne.mp (and2 (hnames x hx)).1, eq_of_beq (and2 (hnames x hx)).2⟩⟩
  generalize callEnvC fd s.heap.objs.size a = ce at ic C ⊢
  have ltL : s.heap.objs.size < h₁.objs.size := by
    obtain ⟨o, _, _, ho, _⟩ := ic.toInCall.ns
    rw [C.l] at ho
    exact Heap.lt_size ho
  obtain ⟨M₁, N⟩ := newAt I.mt I.wi.hlM ⟨fun a o _ e => kp₁ a o e, Nat.le_of_lt ltL⟩ ltL
  have G₁ : ∀ F, Go [] Hs F M s.heap Hs M₁ h₁ := fun F => N.p.go N.hm N.hf _ _ _ fun _ x => x
  refine hX (G₁ (s.heap.objs.size :: F)) (fun a ha hF => ⟨fun x => ?_, ?_, fun x c hc => ?_⟩) ?_ (callee_in C N ic I (fun x pv q => bind_at (k := ce.kindOf) (m := fun _ => none) (cm := fun _ => none) FO.nodup rv q) hkinds) fun fo Hs₂ M₂ ML₂ h₂ tk₂ G₂ hml I₂ fr rxx => ?_
  · rcases List.mem_cons.mp x with rfl | x
    · exact Nat.lt_irrefl _ ha
    · exact hF x
  · rw [C.l]; exact Nat.ne_of_lt ha
  · exact Nat.ne_of_lt (Nat.lt_trans ha (C.look hc))
  · obtain ⟨fs, e1, _⟩ := I.ai.frames
    exact ⟨⟨fs, by rw [show (A.deeper ce).frames = A.frames.map (ce :: ·) from rfl, e1]; rfl⟩, by rw [C.f, C.l]⟩
  have G₂' : Go (Own ce fd.scope ++ S₀) Hs F M₁ h₁ Hs₂ M₂ h₂ := by
    refine G₂.lessF (fun a x => .tail _ x) fun a x => ?_
    rcases List.mem_cons.mp x with rfl | x
    · exact .inr (by rw [← C.l]; exact .head _)
    · exact .inl x
  have G : Go S₀ Hs F M s.heap Hs₂ M₂ h₂ := ((G₁ F).weaken fun _ x => no_mem x).trans G₂' fun a x => by
    rcases List.mem_append.mp x with x | x
    · rcases own_inv x with rfl | ⟨x, _, hc⟩
      · rw [C.l]; exact .inr (Nat.le_refl _)
      · exact .inr (Nat.le_of_lt (C.look hc))
    · exact .inl x
  exact callee_out (s := s) (Rx := Rx s.heap.objs.size) I.mt G I₂.wi I₂.mt (fun a x => Nat.le_trans N.p.size (hml a x)) I₂.ei.ml.hl fr (hRx _ _ _ _ _ N.p.size rxx) (hv ▸ hQ)
theorem fn_callS {d : List Str × List Stmt × Scope} {a : Addr} {args : Args} {vals : List Value} {pvs : List PV} {fl : Fl} {Rx : Nat → Value → Prop} (hRx : ∀ i j v, i ≤ j → Rx j v → Rx i v) {s₀ : Shared} (K₀ : (KF w).In s₀.heap) (FO : FnG w a d) (hB : ∀ fd, fdIn (KF w) a = some fd → BindsFrom s₀ s fd args (d.1.zip vals))
    (hX : ∀ {A env F ML M s} {Q : Flow → Shared → Prop} {X}, Si w A env d.2.2 F ML M Hs (d.1.zip pvs) wd s n →
      (∀ f Hs' M' ML' h' tk, Go (Own env d.2.2 ++ ML) Hs F M s.heap Hs' M' h' → (∀ a ∈ ML', a ∈ ML ∨ s.heap.objs.size ≤ a) → Si w A env d.2.2 F ML' M' Hs' vs' wd' { s with heap := h', toks := tk } n → FlR w h' M' Hs' ML' f fl → (∀ x, f = .ret x → Rx s.heap.objs.size x) → Q f { s with heap := h', toks := tk }) → wpAny (model PG w) A (execs d.2.1 env) Q X s)
    (I : Si w A env sc F ML M Hs vs wd s (n + 1)) (r : All2 (Vr w.params s.heap M Hs ML) vals pvs) (hl : d.1.length = pvs.length) (hm : pvs.all notMut = true) (hv : retV fl = pv)
    (hQ : ∀ v Hs' M' h' tk, Go [] Hs F M s.heap Hs' M' h' → WInv w M' Hs' wd' h' → Mt h' M' → Vr w.params h' M' Hs' ML v pv → ((∀ xs, fl ≠ .ret (.mut xs)) → ∀ u, fl = .ret u → Rx s.heap.objs.size v) → Q v { s with heap := h', toks := tk }) :
    wpAny (model PG w) A (call (.ref a) args.pos args.kw) Q X s₀ :=
  wpAny_call (fn_codeS (S₀ := []) (Rx := fun i f _ _ => (fl ≠ .next → f ≠ .next) ∧ ∀ x, f = .ret x → Rx i x) (fun i j f h M hij ⟨h1, h2⟩ => ⟨h1, fun x e => hRx i j x hij (h2 x e)⟩) K₀ FO hB
    (fun {A env F M' s' Q X} _ _ _ I hQ => hX I fun f Hs' M'' ML' h' tk G hm I' fr rx => hQ f Hs' M'' ML' h' tk G (fun a x => (hm a x).elim (fun h => no_mem h) id) I' fr ⟨(fun hne e => by
      subst e
      induction fl with
      | next => exact hne rfl
      | ret v =>
        obtain ⟨x, e, _⟩ := fr
        cases e), rx⟩)
    I.sb r hl hm hv fun v Hs' M' h' tk G W m r hx => hQ v Hs' M' h' tk G W m r fun hnm u hu => by
      obtain ⟨f, ⟨g1, g2⟩, rfl | rfl⟩ := hx hnm
      · exact g2 v rfl
      · exact absurd rfl (g1 (by rw [hu]; intro h; cases h)))
theorem fn_callR {d : List Str × List Stmt × Scope} {a : Addr} {args : Args} {vals : List Value} {pvs : List PV} {fl : Fl} {Rx : Nat → Value → Prop} (hRx : ∀ i j v, i ≤ j → Rx j v → Rx i v) (FO : FnG w a d) (hB : BindsG w a args (d.1.zip vals))
    (hX : ∀ {A env F ML M s} {Q : Flow → Shared → Prop} {X}, Si w A env d.2.2 F ML M Hs (d.1.zip pvs) wd s n →
      (∀ f Hs' M' ML' h' tk, Go (Own env d.2.2 ++ ML) Hs F M s.heap Hs' M' h' → (∀ a ∈ ML', a ∈ ML ∨ s.heap.objs.size ≤ a) → Si w A env d.2.2 F ML' M' Hs' vs' wd' { s with heap := h', toks := tk } n → FlR w h' M' Hs' ML' f fl → (∀ x, f = .ret x → Rx s.heap.objs.size x) → Q f { s with heap := h', toks := tk }) → wpAny (model PG w) A (execs d.2.1 env) Q X s)
    (I : Si w A env sc F ML M Hs vs wd s (n + 1)) (r : All2 (Vr w.params s.heap M Hs ML) vals pvs) (hl : d.1.length = pvs.length) (hm : pvs.all notMut = true) (hv : retV fl = pv)
    (hQ : ∀ v Hs' M' h' tk, Go [] Hs F M s.heap Hs' M' h' → WInv w M' Hs' wd' h' → Mt h' M' → Vr w.params h' M' Hs' ML v pv → ((∀ xs, fl ≠ .ret (.mut xs)) → ∀ u, fl = .ret u → Rx s.heap.objs.size v) → Q v { s with heap := h', toks := tk }) :
    wpAny (model PG w) A (call (.ref a) args.pos args.kw) Q X s :=
  fn_callS hRx I.wi.inK FO (fun fd e => hB fd e s I.wi.inK) hX I r hl hm hv hQ
theorem fn_callG {d : List Str × List Stmt × Scope} {a : Addr} {args : Args} {vals : List Value} {pvs : List PV} {fl : Fl} (FO : FnG w a d) (hB : BindsG w a args (d.1.zip vals))
    (hX : ∀ {A env F ML M s} {Q : Flow → Shared → Prop} {X}, Si w A env d.2.2 F ML M Hs (d.1.zip pvs) wd s n → PostX w A env d.2.2 F ML M Hs s n Q fl vs' wd' → wpAny (model PG w) A (execs d.2.1 env) Q X s)
    (I : Si w A env sc F ML M Hs vs wd s (n + 1)) (r : All2 (Vr w.params s.heap M Hs ML) vals pvs) (hl : d.1.length = pvs.length) (hm : pvs.all notMut = true) (hv : retV fl = pv) (hQ : PostE w F ML M Hs s Q pv wd') :
    wpAny (model PG w) A (call (.ref a) args.pos args.kw) Q X s :=
  fn_callR (Rx := fun _ _ => True) (fun _ _ _ _ _ => trivial) FO hB (fun I hQ => hX I fun f Hs' M' ML' h' tk G hm I' fr => hQ f Hs' M' ML' h' tk G hm I' fr fun _ _ => trivial) I r hl hm hv fun v Hs' M' h' tk G W m r _ => hQ v Hs' M' h' tk G W m r
theorem fn_call {f : Str} {a : Addr} {vals : List Value} {pvs : List PV} {fl : Fl} (FO : FnOk w a f) (hX : ExS w n E.exs) (I : Si w A env sc F ML M Hs vs wd s (n + 1)) (r : All2 (Vr w.params s.heap M Hs ML) vals pvs) (hl : (fnD f).1.length = pvs.length) (hm : pvs.all notMut = true)
    (e : E.exs (fnD f).2.2 (fnD f).2.1 ((fnD f).1.zip pvs) wd fl vs' wd') (hv : retV fl = pv) (hQ : PostE w F ML M Hs s Q pv wd') :
    wpAny (model PG w) A (call (.ref a) vals) Q X s :=
  fn_callG (args := ⟨vals, []⟩) (.of FO) (bindsG_of FO (by rw [r.length, hl])) (fun I hQ => hX I e hQ) I r hl hm hv hQ
end
noncomputable def Keepable (w : World) (f : Value) : Prop := (∀ a, f ≠ .ref a) ∨ keepIn (KF w) f = true
/-- a builtin's call -/
noncomputable def Blt (w : World) (n : Nat) (f : Str) (pvs : List PV) (wd : Wd) (pv : PV) (wd' : Wd) : Prop := ∃ fv, (nsIn (KF w) mainGlobals f = some (some fv) ∨ (nsIn (KF w) mainGlobals f = some none ∧ bootBuiltins f = some fv ∧ f ≠ "__name__")) ∧ Keepable w fv ∧
    ∀ {A env sc F ML M Hs vs s vals} {Q : Value → Shared → Prop} {X}, Si w A env sc F ML M Hs vs wd s n → All2 (Vr w.params s.heap M Hs ML) vals pvs → PostE w F ML M Hs s Q pv wd' → wpAny (model PG w) A (call fv vals) Q X s
/-- a method: found, then called -/
noncomputable def MthS (w : World) (n : Nat) (a : PV) (m : Str) (pvs : List PV) (wd : Wd) (pv : PV) (wd' : Wd) : Prop := ∀ {A env sc F ML M Hs vs wd₀ s ov pl} {K : Value × List Value → Shared → Prop} {X}, Si w A env sc F ML M Hs vs wd₀ s n → Vr w.params s.heap M Hs ML ov a →
    (∀ fv first, Keepable w fv → (∀ {M' Hs' h' tk vals} {Q : Value → Shared → Prop} {X}, Go [] Hs F M s.heap Hs' M' h' → Si w A env sc F ML M' Hs' vs wd { s with heap := h', toks := tk } n → All2 (Vr w.params h' M' Hs' ML) vals pvs → PostE w F ML M' Hs' { s with heap := h', toks := tk } Q pv wd' → wpAny (model PG w) A (call fv (first ++ vals)) Q X { s with heap := h', toks := tk }) → ∀ s', s' = s → K (fv, first) s') →
    wpAny (model PG w) A (getMethod ov m pl) K X s
noncomputable def SetS (w : World) (n : Nat) (k : Nat) (x y : Str) (wd wd' : Wd) : Prop := ∀ {A env sc F ML M Hs vs s ov t u} {Q : Unit → Shared → Prop} {X}, Si w A env sc F ML M Hs vs wd s n → Vr w.params s.heap M Hs ML ov (.hdr k) →
    (∀ Hs' M' h' tk, Go [] Hs F M s.heap Hs' M' h' → WInv w M' Hs' wd' h' → Mt h' M' → Q () { s with heap := h', toks := tk }) → wpAny (model PG w) A (setItem ov (.str x t) (.str y u)) Q X s
noncomputable def KwdS (w : World) (n : Nat) (a : PV) (m : Str) (p : PV) (b : Bool) (pv : PV) : Prop := ∀ {A env sc F ML M Hs vs wd₀ s ov pl} {K : Value × List Value → Shared → Prop} {X}, Si w A env sc F ML M Hs vs wd₀ s n → Vr w.params s.heap M Hs ML ov a →
    (∀ fv first, Keepable w fv → (∀ {wd M' Hs' h' tk val} {Q : Value → Shared → Prop} {X}, Go [] Hs F M s.heap Hs' M' h' → Si w A env sc F ML M' Hs' vs wd { s with heap := h', toks := tk } n → Vr w.params h' M' Hs' ML val p → PostE w F ML M' Hs' { s with heap := h', toks := tk } Q pv wd → wpAny (model PG w) A (call fv (first ++ [val]) [("name", .bool b)]) Q X { s with heap := h', toks := tk }) → ∀ s', s' = s → K (fv, first) s') →
    wpAny (model PG w) A (getMethod ov m pl) K X s
/-- the leaves: builtins, methods, the header's store -/
structure Leaf (w : World) (L : Lf) (n : Nat) : Prop where
  blt : ∀ {f : Str} {pvs : List PV} {wd wd' : Wd} {pv : PV}, L.cb f pvs wd pv wd' → Blt w n f pvs wd pv wd'
  mth : ∀ {a : PV} {m : Str} {pvs : List PV} {wd wd' : Wd} {pv : PV}, L.mv a m pvs wd pv wd' → MthS w n a m pvs wd pv wd'
  set : ∀ {k : Nat} {x y : Str} {wd wd' : Wd}, L.si k x y wd wd' → SetS w n k x y wd wd'
  kwd : ∀ {a : PV} {m : Str} {p : PV} {b : Bool} {pv : PV}, L.kv a m p b pv → KwdS w n a m p b pv

theorem hC_ga (w : World) : findIn (KF w) (.ref 189) "__getattribute__" = some (some (.builtin "object.__getattribute__")) := by kernel_rfl!
theorem hC_gat (w : World) : findIn (KF w) (.ref 189) "__getattr__" = some none := by kernel_rfl!
theorem hC_dict (w : World) : hasDictIn (KF w) 189 = true := by kernel_rfl!
theorem hC_hd (w : World) : findIn (KF w) (.ref 189) "_headers" = some none := by kernel_rfl!

theorem inst_at {h : Heap} {a dx : Addr} {es : List DictEntry} {k : Nat} (h1 : h.get? a = some (instObj 189 dx)) (h2 : h.get? dx = some (dictOf es k)) : InstAt h a (instObj 189 dx) 189 (some (dictOf es k)) := ⟨h1, rfl, rfl, h2⟩
theorem getL_hd {k : Int} {t : Tok} {v : Value} : getL "_headers" [⟨k, .str "_headers" t, v⟩] = some (some v) := rfl
theorem hd_attr {w : World} {A : Around} {s : Shared} {a dx : Addr} {k : Int} {n : Nat} {t : Tok} {l : Value} {expr : Bool} {Q : Value → Shared → Prop} {X} (K : (KF w).In s.heap) (h1 : s.heap.get? a = some (instObj 189 dx)) (h2 : s.heap.get? dx = some (dictOf [⟨k, .str "_headers" t, l⟩] n)) (hl : handedIn l = true)
    (h : Q l { s with toks := s.toks + 1 }) : wpAny (model PG w) A (getAttr (.ref a) "_headers" expr) Q X s :=
  get_value K (inst_at h1 h2) (hC_ga w) (findObj_own (hC_dict w) (hC_hd w) rfl (by rw [lookIn_dict, getL_hd])) hl h
theorem hd_meth {w : World} {A : Around} {s : Shared} {a dx f : Addr} {k : Int} {n : Nat} {t : Tok} {l : Value} {m : Str} {pl : Sem Bool} {Q : Value × List Value → Shared → Prop} {X} (K : (KF w).In s.heap) (h1 : s.heap.get? a = some (instObj 189 dx)) (h2 : s.heap.get? dx = some (dictOf [⟨k, .str "_headers" t, l⟩] n))
    (hf : findIn (KF w) (.ref 189) m = some (some (.ref f))) (ht : typeIn (KF w) (.ref f) = some (.type "function")) (hm : (Str.ofString "_headers" == m) = false) (h : Q (.ref f, [.ref a]) s) : wpAny (model PG w) A (getMethod (.ref a) m pl) Q X s := by
  refine method_fn K (inst_at h1 h2) (hC_ga w) (hC_gat w) hf ht ?_ h
  show (lookIn m (dictOf _ n)).map _ = _
  rw [lookIn_dict]
  unfold getL
  have : ([⟨k, .str "_headers" t, l⟩] : List DictEntry).find? (·.key.isStr m) = none := by
    rw [List.find?_cons]
    show (match (Str.ofString "_headers" == m) with | true => _ | false => _) = _
    rw [hm]; rfl
  rw [this]; rfl

section
variable {w : World} {A : Around} {env : Env} {sc sc' : Scope} {F F' ML M M' T : List Addr} {Hs Hs' : HL} {vs vs' : Vars} {wd wd' : Wd} {s : Shared} {n : Nat} {h h' : Heap} {pv : PV} {Q : Value → Shared → Prop} {X : Value → Shared → Prop} {E : Ev} {D : Addr} {ds : List PyData} {R : Result → Shared → Prop}

theorem base_plain {o : Expr} {name : Str} {m : Sem Value} (hp : plainO o = true) : attributeBase o name env m = m := by
  cases o <;> first | rfl | exact ff hp
theorem meth_evalK {o : Expr} {name : Str} {apos pos : Pos} {args : List Expr} {kws : List Keyword} (hp : plainO o = true) (hline : (apos.endLine == pos.line) = true) (hlen : args.length + kws.length + (if (backToKw pos (keywordEach kws env)).isEmpty = true then 0 else 1) < 30) (hkw : (backToKw pos (keywordEach kws env)).all (·.1.isSome) = true) (hpl : (backTo pos (starEach args env)).any (·.1) = false)
    (h : wpAny (model PG w) A (eval o env) (fun ov s₁ => wpAny (model PG w) A (getMethod ov name (do return (← importBound o env).getD true)) (fun fx s₂ => wpAny (model PG w) A (callWith pos fx.1 fx.2 (backTo pos (starEach args env)) (backToKw pos (keywordEach kws env))) Q X s₂) X s₁) X s) :
    wpAny (model PG w) A (eval (.Call (.Attribute o name apos) args kws pos) env) Q X s := by
  have hform : methodCallForm (args.length + kws.length) (backTo pos (starEach args env)) (backToKw pos (keywordEach kws env)) = true := by
    unfold methodCallForm
    have e1 : (backTo pos (starEach args env)).all (!·.1) = true := by
      rw [List.all_eq_true]
      rw [List.any_eq_false] at hpl
      intro x hx
      simpa using hpl x hx
    rw [e1, hkw]
    exact decide_eq_true hlen
  have hpos : methodCallPos true o env apos pos = pure pos := by unfold methodCallPos; simp [hline]
  rw [arm_eval_Call, base_plain hp]
  refine wpAny_bind (wpAny_mono h (fun ov s₁ h₁ => wpAny_bind (wpAny_standAt ?_)) fun _ _ e => e)
  unfold methodCall
  rw [hform]
  refine wpAny_bind (wpAny_holding (wpAny_mono h₁ (fun fx s₂ h₂ => ?_) fun _ _ x => x))
  exact wpAny_bind (wpAny_of_eq hpos h₂)
theorem meth_eval {o : Expr} {name : Str} {apos pos : Pos} {args : List Expr} (hp : plainO o = true) (hline : (apos.endLine == pos.line) = true) (hlen : args.length < 30) (hpl : (backTo pos (starEach args env)).any (·.1) = false)
    (h : wpAny (model PG w) A (eval o env) (fun ov s₁ => wpAny (model PG w) A (getMethod ov name (do return (← importBound o env).getD true)) (fun fx s₂ => wpAny (model PG w) A (callWith pos fx.1 fx.2 (backTo pos (starEach args env)) []) Q X s₂) X s₁) X s) :
    wpAny (model PG w) A (eval (.Call (.Attribute o name apos) args [] pos) env) Q X s :=
  meth_evalK (kws := []) hp hline hlen rfl hpl h
theorem call_case {L : Lf} {f : Str} {p pos : Pos} {args : List Expr} {xs : List PV} {wd₁ : Wd} (LF : Leaf w L n) (hE : EvS w n E.ev) (hX : ExS w n E.exs) (I : Si w A env sc F ML M Hs vs wd s (n + 1)) (hg : globV sc f = true) (ho : okName f = true)
    (e1 : EvsOf (fun e wd => E.ev sc e vs wd) args wd xs wd₁) (e2 : CallF L E f xs wd₁ pv wd') (hQ : PostE w F ML M Hs s Q pv wd') : wpAny (model PG w) A (eval (.Call (.Name f p) args [] pos) env) Q X s := by
  induction e2 with
  | own q hl hm hx =>
    have FO := law_fn w q
    refine wpAny_Call_NameR (name_eval ho (glob_at I.wi I.ek hg FO.name ?_))
    exact call_snd (first := []) (.inr FO.keep) hE (I.less (Nat.le_succ n)) e1 fun vals Hs₁ M₁ h₁ tk₁ G₁ W₁ m₁ r₁ => fn_call (E := E) FO hX (I.go G₁ W₁ m₁ tk₁) r₁ hl hm hx rfl (hQ.next G₁)
  | blt e2 =>
    obtain ⟨fv, hn, hk, hc⟩ := LF.blt e2
    have go : wpAny (model PG w) A (callWith pos fv [] (backTo pos (starEach args env)) []) Q X s :=
      call_snd (first := []) hk hE (I.less (Nat.le_succ n)) e1 fun vals Hs₁ M₁ h₁ tk₁ G₁ W₁ m₁ r₁ => hc ((I.go G₁ W₁ m₁ tk₁).less (Nat.le_succ n)) r₁ (hQ.next G₁)
    rcases hn with hn | ⟨h1, h2, h3⟩
    · exact wpAny_Call_NameR (name_eval ho (glob_at I.wi I.ek hg hn go))
    · exact wpAny_Call_NameR (name_eval ho (glob_bt I.wi I.ek hg h1 h2 h3 go))
theorem meth_case {L : Lf} {o : Expr} {m : Str} {ap pos : Pos} {args : List Expr} {a : PV} {xs : List PV} {wd₁ wd₂ : Wd} (LF : Leaf w L n) (hE : EvS w n E.ev) (I : Si w A env sc F ML M Hs vs wd s n) (hp : plainO o = true) (hline : (ap.endLine == pos.line) = true) (hlen : args.length < 30)
    (e0 : E.ev sc o vs wd a wd₁) (e1 : EvsOf (fun e wd => E.ev sc e vs wd) args wd₁ xs wd₂) (e2 : L.mv a m xs wd₂ pv wd') (hQ : PostE w F ML M Hs s Q pv wd') : wpAny (model PG w) A (eval (.Call (.Attribute o m ap) args [] pos) env) Q X s := by
  refine meth_eval hp hline hlen (plain_args e1) (hE I e0 fun ov Hs₁ M₁ h₁ tk₁ G₁ W₁ m₁ r₁ => ?_)
  have I₁ := I.go G₁ W₁ m₁ tk₁
  refine LF.mth e2 I₁ r₁ fun fv first hk hc s' hs => ?_
  subst hs
  refine call_snd hk hE I₁ e1 fun vals Hs₂ M₂ h₂ tk₂ G₂ W₂ m₂ r₂ => ?_
  exact hc G₂ (I₁.go G₂ W₂ m₂ tk₂) r₂ (hQ.next (G₁.trans' G₂))
theorem kw_case {L : Lf} {o e : Expr} {m kw : Str} {ap pos r kp : Pos} {qk} {a x v : PV} {b : Bool} {wd₁ wd₂ : Wd} (LF : Leaf w L n) (hE : EvS w n E.ev) (I : Si w A env sc F ML M Hs vs wd s n) (hkw : (kw == "name") = true) (hp : plainO o = true) (hline : (ap.endLine == pos.line) = true)
    (e0 : E.ev sc o vs wd a wd₁) (e1 : EvsOf (fun e wd => E.ev sc e vs wd) [e] wd₁ [x] wd₂) (e2 : L.kv a m x b v) (hQ : PostE w F ML M Hs s Q v wd₂) : wpAny (model PG w) A (eval (.Call (.Attribute o m ap) [e] [⟨some kw, .Constant (.bool b) qk r, kp⟩] pos) env) Q X s := by
  have hkw := eq_of_beq hkw
  subst hkw
  have hpl := plain_args (env := env) (p := pos) e1
  refine meth_evalK hp hline (by show 1 + 1 + 1 < 30; decide) rfl hpl (hE I e0 fun ov Hs₁ M₁ h₁ tk₁ G₁ W₁ m₁ r₁ => ?_)
  have I₁ := I.go G₁ W₁ m₁ tk₁
  refine LF.kwd e2 I₁ r₁ fun fv first hk hc s' hs => ?_
  subst hs
  have hst : starEach [e] env = (false, eval e env) :: starEach [] env := star_plain (by cases e1 with | cons h _ _ => exact h)
  refine callWith_of (P := fun h => (KF w).In h) (by rw [hpl]; rfl) (fun h X => ?_) (evalArgs_kw2 rfl (evs_snd hE I₁ e1 fun vals Hs₂ M₂ h₂ tk₂ G₂ W₂ m₂ r₂ => kwAll_cons (wpAny_Constant_bool (kwAll_nil ⟨W₂.inK, ?_⟩))) hst)
  · rcases hk with hk | hk
    · refine ⟨.machine, .inr (.inl rfl), Looks.of_pure ?_⟩
      cases fv <;> first | rfl | exact absurd rfl (hk _)
    · exact keeps_K hk h X
  · replace r₂ := r₂.one; obtain ⟨_, rfl, r₂⟩ := r₂
    exact hc G₂ (I₁.go G₂ W₂ m₂ tk₂) r₂ (hQ.next (G₁.trans' G₂))
theorem reads_handed {g : Heap} {v : Value} {d : PyData} {as} (r : Reads g v d as) : handedIn v = true :=
  Reads.casesOn (motive_1 := fun v _ _ _ => handedIn v = true) r rfl (fun _ => rfl) (fun _ _ => rfl) (fun _ _ => rfl) (fun _ _ _ _ => rfl) (fun _ _ _ _ => rfl) (fun _ _ _ _ _ => rfl)
theorem attr_eval {e : Expr} {a : Str} {p : Pos} (hp : plainO e = true) (h : wpAny (model PG w) A (eval e env) (fun o s₁ => wpAny (model PG w) A (getAttr o a true) Q X s₁) X s) : wpAny (model PG w) A (eval (.Attribute e a p) env) Q X s := by
  rw [arm_eval_Attribute, base_plain hp]
  refine wpAny_bind (wpAny_mono h (fun o s₁ h₁ => wpAny_bind (wpAny_standAt (wpAny_bind (wpAny_holding (wpAny_mono h₁ (fun r s₂ h₂ => ?_) fun _ _ x => x))))) fun _ _ x => x)
  exact wpAny_bind (wpAny_letTemporaryGo (wpAny_pure h₂))
theorem attr_case {e : Expr} {a : Str} {p : Pos} {d : PyData} (hE : EvS w n E.ev) (I : Si w A env sc F ML M Hs vs wd s n) (ha : (a == "_headers") = true) (hp : plainO e = true) (e0 : E.ev sc e vs wd (.inst d) wd') (hQ : PostE w F ML M Hs s Q (.dat d) wd') : wpAny (model PG w) A (eval (.Attribute e a p) env) Q X s := by
  have ha := eq_of_beq ha
  subst ha
  refine attr_eval hp (hE I e0 fun v Hs₁ M₁ h₁ tk₁ G₁ W₁ m₁ r₁ => ?_)
  obtain ⟨_, _, _, _, _, _, rfl, e1, e2, r⟩ := r₁.shape
  
  exact hd_attr W₁.inK (Hid.of e1) (Hid.of e2) (reads_handed r) (hQ _ _ _ _ _ G₁ W₁ m₁ (.inl (.dat r)))
theorem attr_self {e : Expr} {a : Str} {p : Pos} {l : Addr} (hE : EvS w n E.ev) (I : Si w A env sc F ML M Hs vs wd s n) (ha : (a == "_headers") = true) (hp : plainO e = true) (e0 : E.ev sc e vs wd (.self l) wd') (hQ : PostE w F ML M Hs s Q (.obj l) wd') : wpAny (model PG w) A (eval (.Attribute e a p) env) Q X s := by
  have ha := eq_of_beq ha
  subst ha
  refine attr_eval hp (hE I e0 fun v Hs₁ M₁ h₁ tk₁ G₁ W₁ m₁ r₁ => ?_)
  obtain ⟨_, _, _, _, rfl, e1, e2⟩ := r₁.shape
  
  exact hd_attr W₁.inK (Hid.of e1) (Hid.of e2) rfl (hQ _ _ _ _ _ G₁ W₁ m₁ (.inl .obj))
end
section
variable {w : World} {n : Nat} {E : Ev}
theorem evStep_snd {L : Lf} (LF : Leaf w L n) (hE : EvS w n E.ev) (hT : TsS w n E.tst) (hX : ExS w n E.exs) : EvS w (n + 1) (fun sc e vs wd v wd' => EvStep L E sc vs e wd v wd') := by
  intro A env sc F ML M Hs vs wd s e pv wd' Q X I h hQ
  have I₀ := I.less (Nat.le_succ n)
  induction h with
  | const h => exact const_snd I h hQ
  | name hk h => exact name_snd I (and2 hk).2 h hQ
  | list q hz h => exact list_snd hE I₀ q hz h hQ
  | tuple q h => exact tuple_snd hE I₀ q h hQ
  | bin q1 q2 h => exact binop_case hE I₀ q1 q2 h hQ
  | neg q => exact neg_case hE I₀ q hQ
  | ifT q h => exact ifexp_case hE hT I₀ q rfl h hQ
  | ifF q h => exact ifexp_case hE hT I₀ q rfl h hQ
  | cmp q1 q2 hb h => exact compare_case hE I₀ q1 q2 hb h hQ
  | slice q1 q2 q3 q4 hk hz => exact slice_case hE I₀ q1 q2 q3 q4 hk hz hQ
  | sub hs q1 q2 h => exact sub_case hs hE I₀ q1 q2 h hQ
  | call hz q h => exact call_case LF hE hX I (and3 hz).1 (and3 hz).2.1 q h hQ
  | meth hz q1 q2 h => exact meth_case LF hE I₀ (and3 hz).1 (and3 hz).2.1 (of_decide_eq_true (and3 hz).2.2) q1 q2 h hQ
  | kw hz q1 q2 h => exact kw_case LF hE I₀ (and3 hz).1 (and3 hz).2.1 (and3 hz).2.2 q1 q2 h hQ
  | attr hz q => exact attr_case hE I₀ (and2 hz).1 (and2 hz).2 q hQ
  | attrS hz q => exact attr_self hE I₀ (and2 hz).1 (and2 hz).2 q hQ
  | lc hp q h => exact listcomp_case hE hT I₀ hp q h hQ
  | dc hp q h => exact dictcomp_case hE I₀ hp q h hQ
  | dict h hz => exact dict_case hE I₀ h (of_decide_eq_true (and3 hz).1) (of_decide_eq_true (and3 hz).2.1) (of_decide_eq_true (and3 hz).2.2) hQ
theorem tstStep_snd (hE : EvS w n E.ev) (hT : TsS w n E.tst) : TsS w (n + 1) (fun sc e vs wd b wd' => TstStep E sc vs e wd b wd') := by
  intro A env sc F ML M Hs vs wd s e b wd' Q X I h hQ
  have I₀ := I.less (Nat.le_succ n)
  induction h with
  | bool h => exact wpAny_isTrue_BoolOp (bool_test hT I₀ h hQ)
  | cmp q1 q2 hb h => exact compare_test hE I₀ q1 q2 hb h hQ
end
open PySem.SeqAt PySem.MeetsSeq PySem.MeetsSeq2 PySem.MeetsSeq3 PySem.SeqRoads2 in
open PySem.AutoSeq1 (wpAny_loadPart') in
theorem extW (l : Addr) (items : Array Value) (n : Nat) (b : Addr) (items2 : Array Value) (n2 : Nat) (dd2 : Option Addr) (sl2 : Array (Option Value)) (hc0 : ¬(!items.isEmpty && Builtin.List.listTooLong (items.size + items2.size)) = true) (hc1 : items.size ≤ sizeLine) (hs2 : items.size + items2.size ≤ sizeLine + 1) :
    Meets (Builtin.«list.extend» ⟨[.ref l, .ref b], []⟩) (fun _ R s => s.heap.get? l = some { cls := .type "list", dict := none, data := .seq items n, slots := #[] } ∧ s.heap.get? b = some { cls := .type "list", dict := dd2, data := .seq items2 n2, slots := sl2 } ∧ R (.ok (.ret Value.none)) { s with heap := s.heap.update l (Obj.mapSeq fun x => x ++ items2), toks := s.toks }) :=
  .of_wp fun prog w A R s h => by
    obtain ⟨hp, g, d, tk, os⟩ := s; obtain ⟨hl, hb, h⟩ := h
    have f1 := AutoSeq1.idx_int; have f2 := AutoSeq1.sub_tuple_tuple; have f3 := AutoSeq1.sub_list_list; have f4 := AutoSeq1.sub_tuple_list; have f5 := AutoSeq1.sub_list_tuple
    have hz' : (items ++ items2).size ≤ sizeLine + 1 := by rw [Array.size_append]; exact hs2
    wp_walk using (wpAny_updateSeq hl rfl (hz := hc1) (_hz' := hz')), wpAny_loadPart' hl, wpAny_loadPart' hb
    exact ⟨_, rfl, h⟩

section
variable {w : World} {A : Around} {env : Env} {sc sc' : Scope} {F F' ML M M' ML' T : List Addr} {Hs Hs' : HL} {vs vs' : Vars} {wd wd' : Wd} {s : Shared} {n : Nat} {h h' : Heap} {pv : PV} {X : Value → Shared → Prop} {E : Ev} {D : Addr} {ds : List PyData} {R : Result → Shared → Prop} {fl : Fl}

theorem swaps_lc {e : Expr} {t : Option Expr} {k : Nat} (h : plainVal e = true) : swapsWith e t k env = pure false := by
  cases e <;> first | rfl | exact ff h
theorem swaps_name {x : Str} {p z : Pos} {k : Nat} {elt : Expr} {gens : List Comprehension} : ∃ b, swapsWith (.ListComp elt gens sc' z) (some (.Name x p)) k env = pure b := ⟨_, rfl⟩
theorem if_or {α : Type} {c : Prop} [Decidable c] {m x s : α} {P : Prop} (h : ¬c → x = m ∨ (P ∧ x = s)) : (if c then m else x) = m ∨ (P ∧ (if c then m else x) = s) := by
  by_cases q : c
  · exact .inl (if_pos q)
  · rw [if_neg q]; exact h q
theorem if_some {c : Prop} [Decidable c] {x : Str} : (if c then some x else none) = some x ∨ (if c then some x else none) = none := by
  by_cases q : c
  · exact .inl (if_pos q)
  · exact .inr (if_neg q)
theorem fm2 {α β : Type} {f : α → Option β} {a b : α} {x y : β} (ha : f a = some x ∨ f a = none) (hb : f b = some y ∨ f b = none) (hl : ([a, b].filterMap f).length = 2) : [a, b].filterMap f = [x, y] := by
  rw [List.filterMap_cons, List.filterMap_cons, List.filterMap_nil] at hl ⊢
  rcases ha with e | e
  · rcases hb with e' | e'
    · rw [e, e']
    · rw [e, e'] at hl; exact nomatch hl
  · rcases hb with e' | e'
    · rw [e, e'] at hl; exact nomatch hl
    · rw [e, e'] at hl; exact nomatch hl
theorem swaps_sub {e o i : Expr} {p : Pos} {k : Nat} : swapsWith e (some (.Subscript o i p)) k env = pure false := by
  cases e <;> rfl
noncomputable def nm2 (env : Env) (x : Str) (p : Pos) (y : Str) (q : Pos) : List Str := [Expr.Name x p, Expr.Name y q].filterMap fun
  | .Name id pos => if env.kindOf id == some .local && pos.line == (([Expr.Name x p, Expr.Name y q].head?.map (·.pos.line)).getD 0) then some id else none
  | _ => none
theorem swapped_two {x y : Str} {p q : Pos} {k : Nat} {z : Pos} {e : Expr} (h : swapOk e = true) : swappedStores [.Tuple [.Name x p, .Name y q] k z] e env = pure none ∨ (x ≠ y ∧ swappedStores [.Tuple [.Name x p, .Name y q] k z] e env = pure (some [x, y])) := by
  cases e <;> first | exact .inl rfl | skip
  rename_i vs k' z'
  have hs : vs.all (constantsAlone 8) = false := by
    cases q : vs.all (constantsAlone 8) with
    | false => rfl
    | true => exact ff (by rw [← h]; show false = !(vs.all (constantsAlone 8)); rw [q]; rfl)
  have key : swappedStores [.Tuple [.Name x p, .Name y q] k z] (.Tuple vs k' z') env = (if (!(2 == 2 || 2 == 3) || vs.length != 2 || env.blockKind != .function) = true then pure none else
      if (vs.any fun | .Starred .. => true | _ => false) = true then pure none else
      if ((nm2 env x p y q).length != 2 || (nm2 env x p y q).eraseDups.length != (nm2 env x p y q).length) = true then pure none else
      if vs.all (foldedForSure 8) = true then pure none else
      if vs.all (constantsAlone 8) = true then (do unsupported "assign.tuple-of-constant-expressions:order-of-the-stores"; pure (some (nm2 env x p y q))) else pure (some (nm2 env x p y q))) := rfl
  rw [key]
  refine if_or fun _ => if_or fun _ => if_or fun h3 => if_or fun _ => ?_
  rw [Bool.or_eq_true, not_or] at h3
  have h5 : nm2 env x p y q = [x, y] := fm2 if_some if_some (Classical.byContradiction fun q => h3.1 (bne_iff_ne.mpr q))
  have h6 := h3.2
  rw [h5] at h6 ⊢
  refine .inr ⟨fun e => h6 ?_, if_neg fun q => ff (hs.symm.trans q)⟩
  rw [e, List.eraseDups_cons]
  simp
theorem Si.up {n' : Nat} {Hs₀ : HL} {vs₀ : Vars} {wd₀ : Wd} {s₀ : Shared} {M₀ ML₀ F₀ : List Addr} (I : Si w A env sc F ML M Hs vs wd s n) (I₀ : Si w A env sc F₀ ML₀ M₀ Hs₀ vs₀ wd₀ s₀ n') : Si w A env sc F ML M Hs vs wd s n' :=
  ⟨I.ek, ⟨I.ai.handled, I.ai.frames, I.ai.fM, I₀.ai.depth, I₀.ai.units⟩, I.wi, I.ei, I.mt, I.fh⟩
/-- from a store's end to a statement's end -/
theorem PostX.own {Q : Flow → Shared → Prop} (hQ : PostX w A env sc F ML M Hs s n Q .next vs' wd') (G : Go [] Hs F M s.heap Hs' M' h') (p : Pv (Own env sc) h' h) {tk : Nat} (I : Si w A env sc F ML M' Hs' vs' wd' { s with heap := h, toks := tk } n) : Q .next { s with heap := h, toks := tk } :=
  hQ .next Hs' M' ML h tk ((G.weaken fun _ x => nomatch x).trans' (p.go (fun _ x => x) (fun _ x => .inl x) _ _ _ fun _ x => List.mem_append_left _ x)) (fun _ x => .inl x) I rfl

theorem fin_use {x : Str} {p : Pos} {Q : Flow → Shared → Prop} (I : Si w A env sc F ML M Hs vs wd s n) (e : BindT sc (.Name x p) pv vs vs') (hQ : PostX w A env sc F ML M Hs s n Q .next vs' wd') :
    FinC w A F M Hs s X (some (assign (.Name x p) env)) (fun _ => Q .next) wd' pv := by
  intro D C M' Hs' h₁ tk G W m rv _ hC hCn hCh hns
  obtain ⟨mm, hns⟩ := hns
  have I₁ := I.go G W m tk
  have apC : Apart env F ML Hs' C := apart_new (s' := s) I hCn hCh rfl
  refine assign_snd I₁ e (.inl rv) fun h₂ tk₂ p₂ I₂ => ?_
  refine ⟨mm, hns.at' fun o e => p₂.keep _ _ apC.own e, fun h₃ sb => ?_⟩
  have p₃ := sb_pv sb
  have I₃ := I₂.pvt p₃ (one_all ⟨hC, apC⟩) (fun _ x => x) (fun _ x => .inl x) (fun a x => by rw [sb.1]; exact I₂.mt a x) tk₂
  refine hQ .next Hs' M' ML h₃ tk₂ ?_ (fun _ x => .inl x) I₃ rfl
  refine ((G.weaken fun _ x => nomatch x).trans' (p₂.go (fun _ x => x) (fun _ x => .inl x) _ _ _ fun _ x => List.mem_append_left _ x)).trans (p₃.go (fun _ x => x) (fun _ x => .inl x) [C] F Hs' fun _ x => x) ?_
  exact one_all (.inr hCn)
theorem assign_name {x : Str} {p q : Pos} {e : Expr} {Q : Flow → Shared → Prop} (hE : EvS w n E.ev) (I : Si w A env sc F ML M Hs vs wd s (n + 1)) (hp : plainVal e = true) (h : E.ev sc e vs wd pv wd') (ho : ownKind sc x = true) (hQ : PostX w A env sc F ML M Hs s (n + 1) Q .next ((x, pv) :: vs) wd') :
    wpAny (model PG w) A (exec (.Assign [.Name x p] e q) env) Q X s :=
  wpAny_Assign_Name (hE (I.less (Nat.le_succ n)) h fun v Hs₁ M₁ h₁ tk₁ G₁ W₁ m₁ r₁ => store_snd (I.go G₁ W₁ m₁ tk₁) ho r₁ fun h₂ tk₂ p₂ _ I₂ => hQ.own G₁ p₂ I₂) (swaps_lc hp)
theorem assign_lc {L : Lf} {x : Str} {p q z : Pos} {elt : Expr} {gens : List Comprehension} {Q : Flow → Shared → Prop} (LF : Leaf w L n) (hE : EvS w n E.ev) (hT : TsS w n E.tst) (hX : ExS w n E.exs) (I : Si w A env sc F ML M Hs vs wd s (n + 1))
    (h : EvStep L E sc vs (.ListComp elt gens sc' z) wd pv wd') (ho : ownKind sc x = true) (hm : notMut pv = true) (hQ : PostX w A env sc F ML M Hs s (n + 1) Q .next ((x, pv) :: vs) wd') :
    wpAny (model PG w) A (exec (.Assign [.Name x p] (.ListComp elt gens sc' z) q) env) Q X s := by
  obtain ⟨b, hsw⟩ := swaps_name (env := env) (sc' := sc') (elt := elt) (gens := gens) (z := z) (x := x) (p := p) (k := q.line)
  induction b with
  | false => exact wpAny_Assign_Name (evStep_snd LF hE hT hX I h fun v Hs₁ M₁ h₁ tk₁ G₁ W₁ m₁ r₁ => store_snd (I.go G₁ W₁ m₁ tk₁) ho r₁ fun h₂ tk₂ p₂ _ I₂ => hQ.own G₁ p₂ I₂) hsw
  | true =>
    have I₀ := I.less (Nat.le_succ n)
    rw [exec_Assign_Name_used _ _ _ _ hsw]
    refine wpAny_bind (wpAny_standAt (wpAny_bind ?_))
    rw [arm_evalThenUse_ListComp]
    cases h with
    | lc hp q1 h1 =>
      refine wpAny_bind (wpAny_mono (comp_run (use := some (assign (.Name x p) env)) (Q := fun _ => Q .next) hE hT I₀ hp q1 h1 (fin_use I₀ (.name ho hm) fun f Hs' M' ML' h' tk G hm I' fr => ?_)) (fun _ s' hq => wpAny_pure (wpAny_pure hq)) fun _ _ x => x)
      exact hQ f Hs' M' ML' h' tk G hm (I'.up I) fr
end
section
variable {w : World} {A : Around} {env : Env} {sc sc' : Scope} {F F' ML M M' ML' T : List Addr} {Hs Hs' : HL} {vs vs' : Vars} {wd wd' : Wd} {s : Shared} {n : Nat} {h h' : Heap} {pv : PV} {X : Value → Shared → Prop} {E : Ev} {D : Addr} {ds : List PyData} {R : Result → Shared → Prop} {fl : Fl} {Q : Flow → Shared → Prop}

theorem sole_lc {e t : Expr} {k : Nat} (h : plainVal e = true) : swapsWithSole [t] e k env = pure false := swaps_lc (t := some t) h
theorem look_swap {x y : Str} {c d : PV} (hne : x ≠ y) (z : Str) : ((y, d) :: (x, c) :: vs).lookup z = ((x, c) :: (y, d) :: vs).lookup z := by
  rw [lookup_cons', lookup_cons', lookup_cons', lookup_cons']
  by_cases h1 : z = x
  · subst h1; rw [if_neg hne, if_pos rfl, if_pos rfl]
  · rw [if_neg h1, if_neg h1]
theorem assign_two {x y : Str} {px py p q : Pos} {a : Nat} {e : Expr} {c d : PV} (hE : EvS w n E.ev) (I : Si w A env sc F ML M Hs vs wd s (n + 1)) (hs : swapOk e = true) (hp : plainVal e = true) (h : E.ev sc e vs wd pv wd') (hb : BindT sc (.Tuple [.Name x px, .Name y py] a p) pv vs ((y, d) :: (x, c) :: vs))
    (o1 : ownKind sc x = true) (o2 : ownKind sc y = true) (e2 : pv = .two c d ∨ ∃ x y, c = .dat x ∧ d = .dat y ∧ pv = .dat (.tuple [x, y])) (hQ : PostX w A env sc F ML M Hs s (n + 1) Q .next ((y, d) :: (x, c) :: vs) wd') :
    wpAny (model PG w) A (exec (.Assign [.Tuple [.Name x px, .Name y py] a p] e q) env) Q X s := by
  rcases swapped_two (env := env) (x := x) (y := y) (p := px) (q := py) (k := a) (z := p) hs with hw | ⟨hne, hw⟩
  · exact Assign_Tuple (hE (I.less (Nat.le_succ n)) h fun v Hs₁ M₁ h₁ tk₁ G₁ W₁ m₁ r₁ => assign_snd (I.go G₁ W₁ m₁ tk₁) hb r₁ fun h₂ tk₂ p₂ I₂ => hQ.own G₁ p₂ I₂) (sole_lc hp) hw
  · refine Assign_Tuple_swapped (hE (I.less (Nat.le_succ n)) h fun v Hs₁ M₁ h₁ tk₁ G₁ W₁ m₁ r₁ => ?_) (sole_lc hp) hw
    have I₁ := I.go G₁ W₁ m₁ tk₁
    obtain ⟨t, va, vb, rfl, ht, ra, rb⟩ := two_inv (w := w) (s := { s with heap := h₁, toks := tk₁ }) pv e2 r₁
    refine unpackItems_kp I.ai.handled ht rfl fun h₂ k₂ => ?_
    refine assignInOrder_cons (bindName_ ?_)
    refine wpAny_mono (two_stores (Q := fun _ => Q .next) (I₁.kp k₂ tk₁) o2 o1 (rb.kp k₂) (ra.kp k₂) fun h₃ tk₃ p₃ I₃ => ?_) (fun _ s₃ h₃ => assignInOrder_cons (bindName_ (wpAny_mono h₃ (fun _ _ x => assignInOrder_nil x) fun _ _ x => x))) fun _ _ x => x
    exact hQ.own G₁ ((Pv.of_kp k₂ _).trans p₃) (I₃.ext (look_swap hne))
theorem assign_tuple {ts : List Expr} {a : Nat} {p q : Pos} {e : Expr} (hE : EvS w n E.ev) (I : Si w A env sc F ML M Hs vs wd s (n + 1)) (hs : swapOk e = true) (hp : plainVal e = true)
    (h : E.ev sc e vs wd pv wd') (hb : BindT sc (.Tuple ts a p) pv vs vs') (hQ : PostX w A env sc F ML M Hs s (n + 1) Q .next vs' wd') : wpAny (model PG w) A (exec (.Assign [.Tuple ts a p] e q) env) Q X s := by
  cases hb with
  | pair o1 o2 => exact assign_two hE I hs hp h (.pair o1 o2) o1 o2 (.inr ⟨_, _, rfl, rfl, rfl⟩) hQ
  | two o1 o2 => exact assign_two hE I hs hp h (.two o1 o2) o1 o2 (.inl rfl) hQ
theorem assign_sub {L : Lf} {o i e : Expr} {p q : Pos} {x y : Str} {k : Nat} {wd₁ wd₂ wd₃ wd₄ : Wd} (LF : Leaf w L n) (hE : EvS w n E.ev) (I : Si w A env sc F ML M Hs vs wd s (n + 1)) (h1 : E.ev sc e vs wd (.dat (.str y)) wd₁) (h2 : E.ev sc o vs wd₁ (.hdr k) wd₂) (h3 : E.ev sc i vs wd₂ (.dat (.str x)) wd₃)
    (hk : L.si k x y wd₃ wd₄) (hQ : PostX w A env sc F ML M Hs s (n + 1) Q .next vs wd₄) : wpAny (model PG w) A (exec (.Assign [.Subscript o i p] e q) env) Q X s := by
  have I₀ := I.less (Nat.le_succ n)
  refine wpAny_Assign_Subscript (hE I₀ h1 fun v Hs₁ M₁ g₁ tk₁ G₁ W₁ m₁ r₁ => ?_) swaps_sub
  have I₁ := I₀.go G₁ W₁ m₁ tk₁
  refine hE I₁ h2 fun ov Hs₂ M₂ g₂ tk₂ G₂ W₂ m₂ r₂ => ?_
  have I₂ := I₁.go G₂ W₂ m₂ tk₂
  refine hE I₂ h3 fun iv Hs₃ M₃ g₃ tk₃ G₃ W₃ m₃ r₃ => ?_
  have I₃ := I₂.go G₃ W₃ m₃ tk₃
  obtain ⟨t, rfl⟩ := r₃.rd.str_inv
  obtain ⟨u, rfl⟩ := (I₂.vr G₃ (I₁.vr G₂ r₁)).rd.str_inv
  refine LF.set hk I₃ (I₂.vr G₃ r₂) fun Hs₄ M₄ g₄ tk₄ G₄ W₄ m₄ => ?_
  have G := ((G₁.trans' G₂).trans' G₃).trans' G₄
  exact hQ .next Hs₄ M₄ ML g₄ tk₄ (G.weaken fun _ x => no_mem x) (fun _ x => .inl x) (I.go G W₄ m₄ tk₄) rfl
theorem assign_mut {x : Str} {p q z : Pos} (I : Si w A env sc F ML M Hs vs wd s n) (ho : ownKind sc x = true) (hQ : PostX w A env sc F ML M Hs s n Q .next ((x, .mut []) :: vs) wd) : wpAny (model PG w) A (exec (.Assign [.Name x p] (.List [] z) q) env) Q X s := by
  refine wpAny_Assign_Name (wpAny_List (wpAny_items_nil ⟨by decide, ?_⟩)) rfl
  obtain ⟨G, W, m, hd⟩ := pushed I { cls := .type "list", data := .seq (([] : List Value).toArray) }
  have I₁ := I.go G W m s.toks
  have ap : Apart env F ML Hs s.heap.objs.size := apart_new (s' := s) I (Nat.le_refl _) hd rfl
  have lt : s.heap.objs.size < (s.heap.push { cls := .type "list", data := .seq (([] : List Value).toArray) }).objs.size := by rw [Heap.size_push]; exact Nat.lt_succ_self _
  have I₂ : Si w A env sc F (s.heap.objs.size :: ML) (s.heap.objs.size :: M) Hs vs wd { s with heap := s.heap.push { cls := .type "list", data := .seq (([] : List Value).toArray) } } n := by
    refine ⟨I₁.ek, I₁.ai, I₁.wi, ⟨?_, I₁.ei.locM, I₁.ei.locH, I₁.ei.cells, I₁.ei.cellOf, I₁.ei.inj, ⟨fun a x => ?_, fun a x => ?_, fun a x => ?_, fun a x => ?_⟩, fun a x => ?_, I₁.ei.in2⟩, I₁.mt, I₁.fh⟩
    · obtain ⟨mm, hn, hv⟩ := I₁.ei.ns
      refine ⟨mm, hn, fun y py q => ?_⟩
      obtain ⟨v, r, a⟩ := hv y py q
      refine ⟨v, ?_, a⟩
      rcases r with r | ⟨b, xs, k, ys, as, e1, e2, e3, e4, e5⟩
      · exact .inl r
      · exact .inr ⟨b, xs, k, ys, as, e1, e2, .tail _ e3, e4, e5⟩
    · rcases List.mem_cons.mp x with rfl | x
      · exact .head _
      · exact I₁.ei.ml.m a x
    · rcases List.mem_cons.mp x with rfl | x
      · exact hd
      · exact I₁.ei.ml.hl a x
    · rcases List.mem_cons.mp x with rfl | x
      · exact ap.fr
      · exact I₁.ei.ml.fr a x
    · rcases List.mem_cons.mp x with rfl | x
      · exact lt
      · exact I₁.ei.ml.there a x
    · rcases List.mem_cons.mp x with rfl | x
      · exact ⟨ap.lc, fun y c hc => ap.ce y c hc⟩
      · exact I₁.ei.mlx a x
  refine store_snd I₂ ho (pv := .mut []) (.inr ⟨_, #[], 0, [], [], rfl, rfl, .head _, Heap.get?_push_size _ rfl, .nil⟩) fun h₂ tk₂ p₂ _ I₃ => ?_
  refine hQ .next Hs _ _ h₂ tk₂ ((G.weaken fun _ x => no_mem x).trans' (p₂.go (fun _ x => x) (fun _ x => .inl x) _ _ _ fun _ x => List.mem_append_left _ x)) (fun a x => ?_) I₃ rfl
  rcases List.mem_cons.mp x with rfl | x
  · exact .inr (Nat.le_refl _)
  · exact .inl x
theorem all_other {x : Str} (h : (vs.all fun p => p.1 == x || notMut p.2) = true) {y : Str} {p : PV} (e : vs.lookup y = some p) (hy : y ≠ x) : notMut p = true := by
  induction vs with
  | nil => cases e
  | cons q r ih =>
    obtain ⟨z, u⟩ := q
    rw [List.all_cons, Bool.and_eq_true, Bool.or_eq_true] at h
    rw [lookup_cons'] at e
    split at e
    · rename_i q
      cases e
      rcases h.1 with h1 | h1
      · exact absurd (q.trans (eq_of_beq h1)) hy
      · exact h1
    · exact ih h.2 e
theorem ns_unique {h : Heap} {a : Addr} {m m' : Str → Option Value} (e : h.Ns a m) (e' : h.Ns a m') : m = m' := by
  obtain ⟨o, es, ep, ho, hd, _, hf⟩ := e
  obtain ⟨o', es', ep', ho', hd', _, hf'⟩ := e'
  rw [ho] at ho'; cases ho'
  rw [hd] at hd'; cases hd'
  funext x
  rw [← hf, ← hf']
theorem name_at {x : Str} {p : Pos} {v : Value} {m : Str → Option Value} {Q : Value → Shared → Prop} (ek : EnvK env sc) (ho : okName x = true) (hn : s.heap.Ns env.locals m) (a : VarAt env s.heap m x v) (h : Q v s) : wpAny (model PG w) A (eval (.Name x p) env) Q X s := by
  unfold okName at ho
  simp only [Bool.and_eq_true, bne_iff_ne, ne_eq] at ho
  refine wpAny_Name ?_ (by simpa using ho.1)
  rcases a with ⟨k, a⟩ | ⟨k, c, hc, hv⟩
  · exact wpAny_loadName_local ek.kind k hn a h
  · rcases k with k | k
    · exact wpAny_loadName_cell ek.kind k hc hv h
    · exact wpAny_loadName_free ek.kind k hc hv h (by simpa using ho.2)
/-- a list of the suite's own, filled further -/
theorem Si.fill {x : Str} {l : Addr} {zs : List PyData} {g₃ : Heap} {tk : Nat} {zv : Array Value} {k' : Nat} {mm : Str → Option Value} (I₂ : Si w A env sc F ML M Hs vs wd s n) (e3 : l ∈ ML) (p : Pv [l] s.heap g₃) (hz : g₃.objs.size = s.heap.objs.size) (hall : (vs.all fun p => p.1 == x || notMut p.2) = true)
    (hns : s.heap.Ns env.locals mm) (a : VarAt env s.heap mm x (.ref l)) (hup : g₃.get? l = some { cls := .type "list", data := .seq zv k' }) (hr : RdA g₃ M zv.toList zs) : Si w A env sc F ML M Hs ((x, .mut zs) :: vs) wd { s with heap := g₃, toks := tk } n := by
  have lM := I₂.ei.ml.m l e3
  have hlH := I₂.ei.ml.hl l e3
  have hlL := I₂.ei.mlx l e3
  have hid := p.hid (M := M) (M' := M) (one_all lM) fun _ x => .inl x
  have G₃ : Go [l] Hs F M s.heap Hs M g₃ := p.go (fun _ x => x) (fun _ x => .inl x) _ _ _ fun _ x => x
  have nl : ∀ {a : Addr}, a ≠ l → a ∉ [l] := fun {a} h => not_one h
  have at' : ∀ {y v}, VarAt env s.heap mm y v → VarAt env g₃ mm y v := fun {y v} a => by
    rcases a with a | ⟨k, c, hc, e'⟩
    · exact .inl a
    · exact .inr ⟨k, c, hc, isCell_go G₃ e' (nl fun h => hlL.2 y c hc h.symm) (I₂.ei.cells y c hc).2.1⟩
  refine ⟨I₂.ek, I₂.ai.go G₃ (fun a ha => nl fun h => I₂.ei.ml.fr l e3 (h ▸ ha)) I₂.fh, I₂.wi.pvt p (one_all lM) (one_all hlH) (fun _ x => x) fun _ x => .inl x, ⟨⟨mm, ns_go G₃ hns (nl hlL.1.symm) I₂.ei.locH, fun y py e => ?_⟩, I₂.ei.locM, I₂.ei.locH, fun y c hc => ?_, I₂.ei.cellOf, I₂.ei.inj, I₂.ei.ml.go G₃, I₂.ei.mlx, I₂.ei.in2⟩, fun a x => by rw [hz]; exact I₂.mt a x, I₂.fh⟩
  · rw [lookup_cons'] at e
    split at e
    · rename_i q
      subst q
      cases e
      obtain ⟨cs, hr⟩ := hr
      exact ⟨_, .inr ⟨l, zv, k', zs, cs, rfl, rfl, e3, hup, hr⟩, at' a⟩
    · rename_i q
      obtain ⟨mm', hns', hv⟩ := I₂.ei.ns
      obtain ⟨v, r, a⟩ := hv y py e
      rw [ns_unique hns' hns] at a
      exact ⟨v, .inl ((r.rv' (all_other hall e q)).mono hid fun _ _ e => e), at' a⟩
  · obtain ⟨c1, c2, c3, v, c4⟩ := I₂.ei.cells y c hc
    exact ⟨c1, c2, c3, v, isCell_go G₃ c4 (nl fun h => hlL.2 y c hc h.symm) c2⟩
/-- the list itself -/
theorem extend_list {x : Str} {l : Addr} {v : Value} {as : Array Value} {k : Nat} {xs ys : List PyData} {mm : Str → Option Value} {Q : Value → Shared → Prop} (I₂ : Si w A env sc F ML M Hs vs wd s n) (e3 : l ∈ ML) (e4 : s.heap.get? l = some ⟨.type "list", none, .seq as k, #[]⟩) (e5 : RdA s.heap M as.toList xs) (hall : (vs.all fun p => p.1 == x || notMut p.2) = true)
    (hns : s.heap.Ns env.locals mm) (a : VarAt env s.heap mm x (.ref l)) (ry : Vr w.params s.heap M Hs ML v (.dat (.list ys))) (h1 : xs.length ≤ small) (h2 : ys.length ≤ small)
    (hQ : ∀ g₃, Go [l] Hs F M s.heap Hs M g₃ → Si w A env sc F ML M Hs ((x, .mut (xs ++ ys)) :: vs) wd { s with heap := g₃, toks := s.toks } n → Q .none { s with heap := g₃, toks := s.toks }) : wpAny (model PG w) A (call (.builtin "list.extend") [.ref l, v]) Q X s := by
  obtain ⟨b, ws, rfl, hl, _, hbM, rw₂⟩ := ry.rd.list_inv
  obtain ⟨⟨cls, dd, data, sl⟩, hob, hc, k₂, hd⟩ := hl
  simp only at hc hd
  subst hc hd
  have sz1 := e5.len
  have sz2 := rw₂.len
  rw [Array.length_toList] at sz1 sz2
  have hb : as.size + ws.size ≤ 2000 := by rw [sz1, sz2]; exact Nat.add_le_add h1 h2
  have ha : as.size ≤ 1000 := by rw [sz1]; exact h1
  refine call_meets PySem.F.slot_list_extend ⟨_, e4, rfl⟩ PySem.F.entry_list_extend (PySem.F.args_list_extend_2 _ _) (extW l as k b ws k₂ dd sl (by have := Nat.le_trans hb (by decide : 2000 ≤ sizeLine); simp [Builtin.List.listTooLong]; omega) (Nat.le_trans ha (by decide)) (Nat.le_trans hb (by decide))) ⟨e4, hob, ?_⟩
  have sb : Heap.SameBut l s.heap (s.heap.update l (Obj.mapSeq fun x => x ++ ws)) := Heap.SameBut.update ..
  have p := sb_pv sb
  have hid := p.hid (M := M) (M' := M) (one_all (I₂.ei.ml.m l e3)) fun _ x => .inl x
  have hup : ∃ k', (s.heap.update l (Obj.mapSeq fun x => x ++ ws)).get? l = some { cls := .type "list", data := .seq (as ++ ws) k' } := by
    rw [Heap.get?_update_self _ e4 (by simp [Obj.mapSeq, Obj.isFreed])]
    exact ⟨_, rfl⟩
  obtain ⟨k', hup⟩ := hup
  refine hQ _ (p.go (fun _ x => x) (fun _ x => .inl x) _ _ _ fun _ x => x) (I₂.fill e3 p sb.1 hall hns a hup ?_)
  rw [Array.toList_append]
  exact (e5.hid hid).app (rw₂.hid hid)
theorem extend_case {x : Str} {e : Expr} {px ap pos q : Pos} {xs ys : List PyData} (hE : EvS w n E.ev) (I : Si w A env sc F ML M Hs vs wd s (n + 1)) (hn : okName x = true) (hline : (ap.endLine == pos.line) = true) (hall : (vs.all fun p => p.1 == x || notMut p.2) = true)
    (hx : vs.lookup x = some (.mut xs)) (he : EvsOf (fun e wd => E.ev sc e vs wd) [e] wd [.dat (.list ys)] wd') (h1 : xs.length ≤ small) (h2 : ys.length ≤ small) (hQ : PostX w A env sc F ML M Hs s (n + 1) Q .next ((x, .mut (xs ++ ys)) :: vs) wd') :
    wpAny (model PG w) A (exec (.Expr (.Call (.Attribute (.Name x px) "extend" ap) [e] [] pos) q) env) Q X s := by
  have I₀ := I.less (Nat.le_succ n)
  obtain ⟨m₀, hn₀, hv₀⟩ := I.ei.ns
  obtain ⟨ov, r₁, a₀⟩ := hv₀ x _ hx
  obtain ⟨l, as', k, bs, rfl, e3, e4, e5⟩ := r₁.shape
  refine wpAny_Expr_any ?_ (by unfold interactive; rw [I.ek.kind]; rfl) rfl
  refine meth_eval rfl hline (by show 1 < 30; decide) (plain_args he) (name_at I.ek hn hn₀ a₀ ?_)
  refine getMethod_builtin (T := "list") ⟨_, e4, rfl⟩ PySem.F.plainAttrs_list PySem.F.slot_list_extend PySem.F.type_list_extend (fun a e => by cases e; exact ⟨_, e4, rfl⟩) ?_
  refine call_snd (.inl fun _ e => nomatch e) hE I₀ he fun vals Hs₂ M₂ g₂ tk₂ G₂ W₂ m₂ r₂ => ?_
  replace r₂ := r₂.one; obtain ⟨_, rfl, ry⟩ := r₂
  exact extend_list (I₀.go G₂ W₂ m₂ tk₂) e3 (G₂.keep l _ (fun x => no_mem x) (I.ei.ml.hl l e3) (I.ei.ml.fr l e3) e4) (RdA.hid ⟨bs, e5⟩ (G₂.hid I.ei.in2 fun _ x => nomatch x)) hall (ns_go G₂ hn₀ (fun x => no_mem x) I.ei.locH)
    (a₀.go (Hs' := Hs₂) G₂ fun z c hc => ⟨(fun x => nomatch x), (I.ei.cells z c hc).2.1⟩) ry h1 h2 fun g₃ G₃ I₃ => hQ .next Hs₂ M₂ ML _ tk₂ ((G₂.weaken fun _ x => nomatch x).trans' (G₃.weaken (one_all (List.mem_append_right _ e3)))) (fun _ x => .inl x) (I₃.up I) rfl
end
section
variable {w : World} {A : Around} {env : Env} {sc sc' : Scope} {F F' ML M M' ML' T : List Addr} {Hs Hs' : HL} {vs vs' : Vars} {wd wd' : Wd} {s : Shared} {n : Nat} {h h' : Heap} {pv : PV} {X : Value → Shared → Prop} {E : Ev} {D : Addr} {ds : List PyData} {R : Result → Shared → Prop} {fl : Fl} {Q : Flow → Shared → Prop}

theorem PostX.up {n' : Nat} (hQ : PostX w A env sc F ML M Hs s n' Q fl vs' wd') (I : Si w A env sc F ML M Hs vs wd s n') : PostX w A env sc F ML M Hs s n Q fl vs' wd' :=
  fun f Hs' M' ML' h' tk G hm I' fr => hQ f Hs' M' ML' h' tk G hm (I'.up I) fr
/-- a body's end, from an earlier state -/
theorem PostX.next {tk : Nat} (hQ : PostX w A env sc F ML M Hs s n Q fl vs' wd') (G : Go [] Hs F M s.heap Hs' M' h') : PostX w A env sc F ML M' Hs' { s with heap := h', toks := tk } n Q fl vs' wd' :=
  fun f Hs' M' ML' h' tk G' hm I' fr => hQ f Hs' M' ML' h' tk ((G.weaken fun _ x => no_mem x).trans' G') (fun a x => (hm a x).elim .inl fun h => .inr (Nat.le_trans G.size h)) I' fr

theorem if_case {t : Expr} {b o l : List Stmt} {p : Pos} {c : Bool} {wd₁ : Wd} (hT : TsS w n E.tst) (hX : ExS w n E.exs) (I : Si w A env sc F ML M Hs vs wd s (n + 1)) (h1 : E.tst sc t vs wd c wd₁) (hl : l = if c = true then b else o) (h2 : E.exs sc l vs wd₁ fl vs' wd')
    (hQ : PostX w A env sc F ML M Hs s (n + 1) Q fl vs' wd') : wpAny (model PG w) A (exec (.If t b o p) env) Q X s := by
  have I₀ := I.less (Nat.le_succ n)
  refine wpAny_If (hT I₀ h1 fun Hs₁ M₁ h₁ tk₁ G₁ W₁ m₁ => ?_)
  subst hl
  induction c with
  | true => exact hX (I₀.go G₁ W₁ m₁ tk₁) h2 ((hQ.up (n := n) I).next G₁)
  | false => exact hX (I₀.go G₁ W₁ m₁ tk₁) h2 ((hQ.up (n := n) I).next G₁)
theorem ret_case {e : Expr} {p : Pos} (hE : EvS w n E.ev) (I : Si w A env sc F ML M Hs vs wd s (n + 1)) (h1 : E.ev sc e vs wd pv wd') (hQ : PostX w A env sc F ML M Hs s (n + 1) Q (.ret pv) vs wd') : wpAny (model PG w) A (exec (.Return (some e) p) env) Q X s := by
  have I₀ := I.less (Nat.le_succ n)
  refine wpAny_Return_some (hE I₀ h1 fun v Hs₁ M₁ h₁ tk₁ G₁ W₁ m₁ r₁ => ?_)
  exact hQ _ Hs₁ M₁ ML h₁ tk₁ (G₁.weaken fun _ x => no_mem x) (fun _ x => .inl x) (I.go G₁ W₁ m₁ tk₁) ⟨v, rfl, r₁⟩
theorem expr_case {e : Expr} {p : Pos} (hE : EvS w n E.ev) (I : Si w A env sc F ML M Hs vs wd s (n + 1)) (hp : plainVal e = true) (h1 : E.ev sc e vs wd pv wd') (hQ : PostX w A env sc F ML M Hs s (n + 1) Q .next vs wd') : wpAny (model PG w) A (exec (.Expr e p) env) Q X s := by
  have I₀ := I.less (Nat.le_succ n)
  refine wpAny_Expr_any (hE I₀ h1 fun v Hs₁ M₁ h₁ tk₁ G₁ W₁ m₁ r₁ => ?_) (by unfold interactive; rw [I.ek.kind]; rfl) (swaps_lc hp)
  exact hQ _ Hs₁ M₁ ML h₁ tk₁ (G₁.weaken fun _ x => no_mem x) (fun _ x => .inl x) (I.go G₁ W₁ m₁ tk₁) rfl

theorem own_ml (I : Si w A env sc F ML M Hs vs wd s n) : ∀ a ∈ Own env sc ++ ML, a ∈ M := fun a x => by
  rcases List.mem_append.mp x with x | x
  · exact own_M I a x
  · exact I.ei.ml.m a x
/-- where a loop stands: what it did to the heap since it began -/
structure LoopSt (w : World) (A : Around) (env : Env) (sc : Scope) (F ML S : List Addr) (Hs : HL) (M : List Addr) (h : Heap) (s : Shared) (n : Nat) (Hs' : HL) (M' ML' : List Addr) (h' : Heap) (tk : Nat) (vs : Vars) (wd : Wd) : Prop where
  G : Go S Hs F M h Hs' M' h'
  ml : ∀ a ∈ ML', a ∈ ML ∨ h.objs.size ≤ a
  I : Si w A env sc F ML' M' Hs' vs wd { s with heap := h', toks := tk } n
/-- a suite's run within a loop -/
theorem LoopSt.suite {S : List Addr} {h₁ h₂ : Heap} {ML₂ M₂ : List Addr} {Hs₂ : HL} {tk tk₂ : Nat} {vs₂ : Vars} {wd₂ : Wd} (hS : ∀ a ∈ Own env sc ++ ML, a ∈ S) (L : LoopSt w A env sc F ML S Hs M h s n Hs' M' ML' h₁ tk vs wd) (G : Go (Own env sc ++ ML') Hs' F M' h₁ Hs₂ M₂ h₂) (hm : ∀ a ∈ ML₂, a ∈ ML' ∨ h₁.objs.size ≤ a)
    (I : Si w A env sc F ML₂ M₂ Hs₂ vs₂ wd₂ { s with heap := h₂, toks := tk₂ } n) : LoopSt w A env sc F ML S Hs M h s n Hs₂ M₂ ML₂ h₂ tk₂ vs₂ wd₂ := by
  refine ⟨L.G.trans G fun a x => ?_, fun a x => (hm a x).elim (L.ml a) fun h => .inr (Nat.le_trans L.G.size h), I⟩
  rcases List.mem_append.mp x with x | x
  · exact .inl (hS a (List.mem_append_left _ x))
  · exact (L.ml a x).imp (fun x => hS a (List.mem_append_right _ x)) id
theorem LoopSt.go {S : List Addr} {h₁ h₂ : Heap} {M₂ : List Addr} {Hs₂ : HL} {tk : Nat} {wd₂ : Wd} (L : LoopSt w A env sc F ML S Hs M h s n Hs' M' ML' h₁ tk vs wd) (G : Go [] Hs' F M' h₁ Hs₂ M₂ h₂) (W : WInv w M₂ Hs₂ wd₂ h₂) (m : Mt h₂ M₂) (tk₂ : Nat) : LoopSt w A env sc F ML S Hs M h s n Hs₂ M₂ ML' h₂ tk₂ vs wd₂ :=
  ⟨L.G.trans' (G.weaken fun _ x => no_mem x), L.ml, L.I.go G W m tk₂⟩
inductive ForAt (w : World) (A : Around) (env : Env) (sc : Scope) (F ML : List Addr) (It : Addr) (Hs : HL) (M : List Addr) (h : Heap) (s : Shared) (n : Nat) (xs : List PyData) (St : Nat → Heap → Prop) (R : List PyData → Vars → Wd → Prop) (k : Nat) (s' : Shared) : Prop
  | mk {j Hs' M' ML' h' tk vs wd} : s' = { s with heap := h', toks := tk } → j ≤ xs.length → k = xs.length - j → LoopSt w A env sc F ML (It :: (Own env sc ++ ML)) Hs M h s n Hs' M' ML' h' tk vs wd → St j h' → R (xs.drop j) vs wd → ForAt w A env sc F ML It Hs M h s n xs St R k s'
/-- one turn of a for loop -/
theorem for_turn {t : Expr} {b : List Stmt} {x : PyData} {r : List PyData} {It : Addr} {v : Value} {Hs₂ : HL} {M₂ ML₂ : List Addr} {h₃ : Heap} {tk₃ : Nat} {P : Shared → Prop} (hX : ExS w n E.exs) (L : LoopSt w A env sc F ML (It :: (Own env sc ++ ML)) Hs M h s n Hs₂ M₂ ML₂ h₃ tk₃ vs wd) (rx : Vr w.params h₃ M₂ Hs₂ ML₂ v (.dat x)) (e : ForL E sc t b (x :: r) vs wd fl vs' wd')
    (next : ∀ M₅ Hs₅ ML₅ h₅ tk₅ vs₅ wd₅, Go (Own env sc ++ ML₂) Hs₂ F M₂ h₃ Hs₅ M₅ h₅ → LoopSt w A env sc F ML (It :: (Own env sc ++ ML)) Hs M h s n Hs₅ M₅ ML₅ h₅ tk₅ vs₅ wd₅ → ForL E sc t b r vs₅ wd₅ fl vs' wd' → P { s with heap := h₅, toks := tk₅ })
    (out : ∀ {M₃ Hs₃ ML₃ h₃ tk₃ fo}, LoopSt w A env sc F ML (It :: (Own env sc ++ ML)) Hs M h s n Hs₃ M₃ ML₃ h₃ tk₃ vs' wd' → FlR w h₃ M₃ Hs₃ ML₃ fo fl → Q fo { s with heap := h₃, toks := tk₃ }) :
    wpAny (model PG w) A (assign t env v) (fun _ s₂ => wpAny (model PG w) A (execs b env) (fun f s₃ => match f with
      | .next | .cont => P s₃
      | .brk => Q .next s₃
      | .ret v => Q (.ret v) s₃) X s₂) X { s with heap := h₃, toks := tk₃ } := by
  have go : ∀ {h₄ M₅ Hs₅ ML₅ h₅ tk₅ vs₅ wd₅}, Pv (Own env sc) h₃ h₄ → Go (Own env sc ++ ML₂) Hs₂ F M₂ h₄ Hs₅ M₅ h₅ → (∀ a ∈ ML₅, a ∈ ML₂ ∨ h₄.objs.size ≤ a) → Si w A env sc F ML₅ M₅ Hs₅ vs₅ wd₅ { s with heap := h₅, toks := tk₅ } n →
      Go (Own env sc ++ ML₂) Hs₂ F M₂ h₃ Hs₅ M₅ h₅ ∧ LoopSt w A env sc F ML (It :: (Own env sc ++ ML)) Hs M h s n Hs₅ M₅ ML₅ h₅ tk₅ vs₅ wd₅ := fun p₄ G₅ hm₅ I₅ => by
    have G := (p₄.go (fun _ x => x) (fun _ x => .inl x) (Own env sc ++ ML₂) F Hs₂ fun _ x => List.mem_append_left _ x).trans' G₅
    exact ⟨G, L.suite (fun a x => .tail _ x) G (fun a x => (hm₅ a x).imp id (Nat.le_trans p₄.size)) I₅⟩
  cases e with
  | next q1 q2 e =>
    refine assign_snd L.I q1 rx fun h₄ tk₄ p₄ I₄ => hX I₄ q2 fun fo Hs₅ M₅ ML₅ h₅ tk₅ G₅ hm₅ I₅ fr₅ => ?_
    cases (show fo = .next from fr₅)
    obtain ⟨G, L'⟩ := go p₄ G₅ hm₅ I₅
    exact next _ _ _ _ _ _ _ G L' e
  | ret q1 q2 =>
    refine assign_snd L.I q1 rx fun h₄ tk₄ p₄ I₄ => hX I₄ q2 fun fo Hs₅ M₅ ML₅ h₅ tk₅ G₅ hm₅ I₅ fr₅ => ?_
    obtain ⟨xv, rfl, rx'⟩ := fr₅
    exact out (go p₄ G₅ hm₅ I₅).2 ⟨xv, rfl, rx'⟩
theorem for_loop {t : Expr} {b : List Stmt} {xs : List PyData} {It : Addr} {ax : List Addr} {P : Nat → Value → Prop} {St : Nat → Heap → Prop} {tk : Nat} (hX : ExS w n E.exs) (I₁ : Si w A env sc F ML M Hs vs wd { s with heap := h, toks := tk } n) (ap : Apart env F ML Hs It) (m₁ : Mt h M) (a1 : It ∈ M) (ItW : Itr w A It ax xs.length P St) (st : St 0 h)
    (hax : ∀ b ∈ ax, b ∉ M ∧ b < h.objs.size) (hP : ∀ i v, i < xs.length → P i v → ∃ d, xs[i]? = some d ∧ Rd h M v d) (h2 : ForL E sc t b xs vs wd fl vs' wd')
    (out : ∀ {M₃ Hs₃ ML₃ h₃ tk₃ fo}, LoopSt w A env sc F ML (It :: (Own env sc ++ ML)) Hs M h s n Hs₃ M₃ ML₃ h₃ tk₃ vs' wd' → FlR w h₃ M₃ Hs₃ ML₃ fo fl → Q fo { s with heap := h₃, toks := tk₃ }) :
    codeAny (model PG w) A (.forLoop t (.ref It) b [] env) (fun r s' => match r with | .ok f => Q f s' | .error e => cameBackBy (model PG w) A env X e s') { s with heap := h, toks := tk } := by
  refine codeAny_forLoop_any (ForAt w A env sc F ML It Hs M h s n xs St fun ds vs wd => ForL E sc t b ds vs wd fl vs' wd') ?_ (xs.length - 0) ⟨rfl, Nat.zero_le _, rfl, ⟨Go.refl _ _ _ _ _, fun _ x => .inl x, I₁⟩, st, h2⟩
  rintro k s' ⟨rfl, hj, rfl, L₂, st₂, e₂⟩
  rename_i j Hs₂ M₂ ML₂ h₂ tk₂ vsj wdj
  have ap₂ : Apart env F ML₂ Hs₂ It := ⟨L₂.G.hlNew' (m₁ _ a1) ap.hl, ap.lc, ap.ce, fun x => (L₂.ml _ x).elim ap.ml fun h => absurd (m₁ _ a1) (Nat.not_lt.mpr h), ap.fr⟩
  have after : ∀ {h₃ : Heap} {tk₃ : Nat}, Pv [It] h₂ h₃ → LoopSt w A env sc F ML (It :: (Own env sc ++ ML)) Hs M h s n Hs₂ M₂ ML₂ h₃ tk₃ vsj wdj := fun {h₃ tk₃} p₃ =>
    ⟨L₂.G.trans' (p₃.go (fun _ x => x) (fun _ x => .inl x) _ _ _ one_mem), L₂.ml, L₂.I.pvt (tk := tk₃) p₃ (one_all ⟨L₂.G.ms _ a1, ap₂⟩) (fun _ x => x) (fun _ x => .inl x) (fun a x => Nat.lt_of_lt_of_le (L₂.I.mt a x) p₃.size)⟩
  rcases Nat.lt_or_ge j xs.length with hlt | hge
  · refine wpAny_sz (ItW.W.item j _ _ _ hlt st₂ fun v h₃ tk₃ hv st₃ kp₃ hz₃ => ?_)
    obtain ⟨x, hx, rx⟩ := hP j v hlt hv
    rw [drop_at hx] at e₂
    have L₃ := after (tk₃ := tk₃) ⟨fun a o q e => kp₃ a o q e, hz₃⟩
    refine ItW.own t _ _ _ _ _ st₃ (for_turn (s := s) (P := fun s' => ∃ m, m < xs.length - j ∧ ForAt w A env sc F ML It Hs M h s n xs St (fun ds vs wd => ForL E sc t b ds vs wd fl vs' wd') m s') hX L₃ (rx.hid (L₃.G.hid I₁.ei.in2 fun a x => ?_)).vr e₂ (fun M₅ Hs₅ ML₅ h₅ tk₅ vs₅ wd₅ G L e =>
      ⟨xs.length - (j + 1), Nat.sub_lt_sub_left hlt (Nat.lt_succ_self j), rfl, hlt, rfl, L, itr_keep ItW G (own_ml L₂.I) ⟨fun x => (List.mem_append.mp x).elim ap₂.own ap₂.ml, ap₂.hl, ap₂.fr⟩ L₂.I.ai.fM L₂.I.wi.hlM (fun b hb => L₂.G.mNew' (hax b hb).2 (hax b hb).1) st₃, e⟩) out)
    rcases List.mem_cons.mp x with rfl | x
    · exact a1
    · exact own_ml I₁ a x
  · cases Nat.le_antisymm hj hge
    rw [List.drop_length] at e₂
    cases e₂
    exact wpAny_sz (ItW.W.done _ _ _ st₂ fun h₃ tk₃ kp₃ hz₃ => wpAny_execs_nil (out (after ⟨fun a o q e => kp₃ a o q e, hz₃⟩) rfl))
theorem for_case {t it : Expr} {b : List Stmt} {p : Pos} {xs : List PyData} {wd₁ : Wd} (hE : EvS w n E.ev) (hX : ExS w n E.exs) (I : Si w A env sc F ML M Hs vs wd s (n + 1)) (h1 : ItersOf E sc vs it wd xs wd₁)
    (h2 : ForL E sc t b xs vs wd₁ fl vs' wd') (hQ : PostX w A env sc F ML M Hs s (n + 1) Q fl vs' wd') : wpAny (model PG w) A (exec (.For t it b [] p) env) Q X s := by
  refine wpAny_For (iters_snd hE (I.less (Nat.le_succ n)) h1 fun It ax P St Hs₁ M₁ h₁ tk₁ G₁ W₁ m₁ a1 a2 a3 ItW st hax hP => ?_) fun x => folded_plain (itersOf_notSet h1) x
  -- from a later state of the loop to the statement's end
  have out : ∀ {M₃ Hs₃ ML₃ h₃ tk₃ fo}, LoopSt w A env sc F ML (It :: (Own env sc ++ ML)) Hs₁ M₁ h₁ s n Hs₃ M₃ ML₃ h₃ tk₃ vs' wd' → FlR w h₃ M₃ Hs₃ ML₃ fo fl → Q fo { s with heap := h₃, toks := tk₃ } := fun {M₃ Hs₃ ML₃ h₃ tk₃ fo} L fr => by
    refine hQ fo Hs₃ M₃ ML₃ h₃ tk₃ ((G₁.weaken fun _ x => no_mem x).trans L.G fun a x => ?_) (fun a x => (L.ml a x).imp id (Nat.le_trans G₁.size)) (L.I.up I) fr
    rcases List.mem_cons.mp x with rfl | x
    · exact .inr a2
    · exact .inl x
  have I₁ := (I.less (Nat.le_succ n)).go G₁ W₁ m₁ tk₁
  have ap : Apart env F ML Hs₁ It := apart_new (s' := s) I a2 a3 rfl
  clear hQ h1 G₁ W₁ I hE
  exact for_loop hX I₁ ap m₁ a1 ItW st hax hP h2 out
inductive WhileAt (w : World) (A : Around) (env : Env) (sc : Scope) (F ML : List Addr) (Hs : HL) (M : List Addr) (s : Shared) (n : Nat) (R : Nat → Vars → Wd → Prop) (k : Nat) (s' : Shared) : Prop
  | mk {Hs' M' ML' h' tk vs wd} : s' = { s with heap := h', toks := tk } → LoopSt w A env sc F ML (Own env sc ++ ML) Hs M s.heap s n Hs' M' ML' h' tk vs wd → R k vs wd → WhileAt w A env sc F ML Hs M s n R k s'
theorem while_case {t : Expr} {b : List Stmt} {p : Pos} {k : Nat} (hT : TsS w n E.tst) (hX : ExS w n E.exs) (I : Si w A env sc F ML M Hs vs wd s (n + 1))
    (h : WhileL E sc t b k vs wd vs' wd') (hQ : PostX w A env sc F ML M Hs s (n + 1) Q .next vs' wd') : wpAny (model PG w) A (exec (.While t b [] p) env) Q X s := by
  refine wpAny_While (codeAny_whileLoop (WhileAt w A env sc F ML Hs M s n fun k vs wd => WhileL E sc t b k vs wd vs' wd') ?_ k ⟨rfl, ⟨Go.refl _ _ _ _ _, fun _ x => .inl x, I.less (Nat.le_succ n)⟩, h⟩)
  rintro k s' ⟨rfl, L₁, e₁⟩
  induction e₁ with
  | go q1 q2 e =>
    refine hT L₁.I q1 fun Hs₂ M₂ h₂ tk₂ G₂ W₂ m₂ => ?_
    have L₂ := L₁.go G₂ W₂ m₂ tk₂
    rw [if_pos rfl]
    refine hX L₂.I q2 fun fo Hs₃ M₃ ML₃ h₃ tk₃ G₃ hm₃ I₃ fr₃ => ?_
    cases (show fo = .next from fr₃)
    exact ⟨_, Nat.lt_succ_self _, rfl, L₂.suite (fun _ x => x) G₃ hm₃ I₃, e⟩
  | stop q1 =>
    refine hT L₁.I q1 fun Hs₂ M₂ h₂ tk₂ G₂ W₂ m₂ => ?_
    have L₂ := L₁.go G₂ W₂ m₂ tk₂
    rw [if_neg Bool.false_ne_true]
    exact wpAny_execs_nil (hQ .next Hs₂ M₂ _ h₂ tk₂ L₂.G L₂.ml (L₂.I.up I) rfl)
end
section
variable {w : World} {n : Nat} {E : Ev}
theorem exStep_snd {L : Lf} (LF : Leaf w L n) (hE : EvS w n E.ev) (hT : TsS w n E.tst) (hX : ExS w n E.exs) {A : Around} {env : Env} {sc : Scope} {F ML M : List Addr} {Hs : HL} {vs vs' : Vars} {wd wd' : Wd} {s : Shared} {st : Stmt} {fl : Fl} {Q : Flow → Shared → Prop} {X : Value → Shared → Prop}
    (I : Si w A env sc F ML M Hs vs wd s (n + 1)) (h : ExStep L E sc st vs wd fl vs' wd') (hQ : PostX w A env sc F ML M Hs s (n + 1) Q fl vs' wd') : wpAny (model PG w) A (exec st env) Q X s := by
  induction h with
  | name hp q ho hm => exact assign_name hE I hp q ho hQ
  | lc q ho hm => exact assign_lc LF hE hT hX I q ho hm hQ
  | «mut» ho => exact assign_mut I ho hQ
  | tup hs hp q hb => exact assign_tuple hE I hs hp q hb hQ
  | sub q1 q2 q3 h => exact assign_sub LF hE I q1 q2 q3 h hQ
  | ext hz q1 q2 hx hy =>
    obtain ⟨hz, h5⟩ := and2 hz
    obtain ⟨hz, h4⟩ := and2 hz
    cases eq_of_beq (and2 (and2 hz).1).1
    exact extend_case hE I (and2 hz).2 h4 h5 q1 q2 hx hy hQ
  | expr hp q => exact expr_case hE I hp q hQ
  | ifT q h => exact if_case hT hX I q rfl h hQ
  | ifF q h => exact if_case hT hX I q rfl h hQ
  | loop q h => exact for_case hE hX I q h hQ
  | «while» h => exact while_case hT hX I h hQ
  | ret q => exact ret_case hE I q hQ
theorem exsStep_snd {L : Lf} (LF : Leaf w L n) (hE : EvS w n E.ev) (hT : TsS w n E.tst) (hX : ExS w n E.exs) : ExS w (n + 1) (ExsStep L E) := by
  intro A env sc F ML M Hs vs wd s body fl vs' wd' Q X I h hQ
  induction h generalizing ML M Hs s Q with
  | nil => exact wpAny_execs_nil (hQ .next Hs M ML s.heap s.toks (Go.refl _ _ _ _ _) (fun _ x => .inl x) I rfl)
  | next q _ ih =>
    refine wpAny_execs_cons (exStep_snd LF hE hT hX I q fun fo Hs₁ M₁ ML₁ h₁ tk₁ G₁ hm₁ I₁ fr₁ => ?_)
    cases (show fo = .next from fr₁)
    refine ih I₁ fun f₂ Hs₂ M₂ ML₂ h₂ tk₂ G₂ hm₂ I₂ fr₂ => ?_
    have L := LoopSt.suite (fun _ x => x) ⟨G₁, hm₁, I₁⟩ G₂ hm₂ I₂
    exact hQ f₂ Hs₂ M₂ ML₂ h₂ tk₂ L.G L.ml I₂ fr₂
  | ret q =>
    refine wpAny_execs_cons (exStep_snd LF hE hT hX I q fun fo Hs₁ M₁ ML₁ h₁ tk₁ G₁ hm₁ I₁ fr₁ => ?_)
    obtain ⟨xv, rfl, rx⟩ := fr₁
    exact hQ _ Hs₁ M₁ ML₁ h₁ tk₁ G₁ hm₁ I₁ ⟨xv, rfl, rx⟩
theorem evN_snd {L : Lf} {d : Nat} (LF : ∀ n, d ≤ n → Leaf w L n) : ∀ n, EvS w (n + d) (evN L n).ev ∧ TsS w (n + d) (evN L n).tst ∧ ExS w (n + d) (evN L n).exs
  | 0 => ⟨(fun _ h => h.elim), (fun _ h => h.elim), (fun _ h => h.elim)⟩
  | n + 1 => by
    obtain ⟨hE, hT, hX⟩ := evN_snd LF n
    rw [Nat.add_right_comm]
    exact ⟨evStep_snd (LF _ (Nat.le_add_left d n)) hE hT hX, tstStep_snd hE hT, exsStep_snd (LF _ (Nat.le_add_left d n)) hE hT hX⟩
end
section
variable {w : World} {A : Around} {env : Env} {sc : Scope} {F ML M : List Addr} {Hs : HL} {vs : Vars} {wd : Wd} {s : Shared} {n : Nat} {pv : PV} {Q : Value → Shared → Prop} {X : Value → Shared → Prop}
theorem PostE.kpd (hQ : PostE w F ML M Hs s Q pv wd) (I : Si w A env sc F ML M Hs vs wd s n) {v : Value} {h' : Heap} {tk : Nat} (k : Kp s.heap h') (r : Vr w.params h' M Hs ML v pv) : Q v { s with heap := h', toks := tk } := hQ.here I v h' tk k r

theorem len_snd {v : Value} {p : PV} {xs : List PyData} (I : Si w A env sc F ML M Hs vs wd s n) (e : listV p = some xs) (hz : xs.length ≤ small) (r : Vr w.params s.heap M Hs ML v p) (hQ : PostE w F ML M Hs s Q (.dat (.int xs.length)) wd) : wpAny (model PG w) A (call (.builtin "len") [v]) Q X s := by
  obtain ⟨l, ws, rfl, hl, rs⟩ := listV_inv e r
  have sz := rs.len
  simp only [Array.length_toList] at sz
  have sm : small = 1000 := rfl
  refine call_len_list hl (by omega) (hQ.kpd I (Kp.refl _) ?_)
  rw [sz]
  exact (Rd.int _ _).vr
theorem ints_items {vs : Array Value} {ns : List Int} (h : IntsAre vs.toList ns) : ∃ xs : Array (Int × Tok), vs = intItems xs ∧ xs.toList.map (·.1) = ns := by
  obtain ⟨l⟩ := vs
  simp only at h
  suffices ∀ {l : List Value} {ns : List Int}, IntsAre l ns → ∃ ys : List (Int × Tok), l = ys.map (fun p => Value.int p.1 p.2) ∧ ys.map (·.1) = ns by
    obtain ⟨ys, e1, e2⟩ := this h
    exact ⟨ys.toArray, by simp [intItems, e1], by simpa using e2⟩
  intro l ns h
  induction h with
  | nil => exact ⟨[], rfl, rfl⟩
  | cons i t _ ih =>
    obtain ⟨ys, e1, e2⟩ := ih
    exact ⟨(i, t) :: ys, by rw [e1]; rfl, by rw [List.map_cons, e2]⟩
theorem sum_snd {v : Value} {p : PV} {xs : List PyData} {ns : List Int} (I : Si w A env sc F ML M Hs vs wd s n) (e : listV p = some xs) (en : intsD xs = some ns) (r : Vr w.params s.heap M Hs ML v p) (hQ : PostE w F ML M Hs s Q (.dat (.int ns.sum)) wd) : wpAny (model PG w) A (call (.builtin "sum") [v]) Q X s := by
  obtain ⟨l, ws, rfl, hl, rs⟩ := listV_inv e r
  obtain ⟨xs', rfl, hn⟩ := ints_items (rs.ints en)
  refine wpAny_sz (sum_intListG I.ai.handled hl fun h' tk t' hk hz => ?_)
  rw [preSum_eq, List.take_of_length_le (by simp), hn]
  exact hQ.kpd I ⟨hk, hz⟩ (Rd.int _ _).vr
theorem foldl_max : ∀ (r : List Int) (a : Int), (r.foldl (fun m x => if x > m then x else m) a = a ∨ r.foldl (fun m x => if x > m then x else m) a ∈ r) ∧ a ≤ r.foldl (fun m x => if x > m then x else m) a ∧ ∀ x ∈ r, x ≤ r.foldl (fun m x => if x > m then x else m) a
  | [], a => ⟨.inl rfl, Int.le_refl _, fun _ h => no_mem h⟩
  | b :: r, a => by
    rw [List.foldl_cons]
    obtain ⟨h1, h2, h3⟩ := foldl_max r (if b > a then b else a)
    refine ⟨?_, ?_, fun x hx => ?_⟩
    · rcases h1 with h1 | h1
      · by_cases h : b > a
        · rw [if_pos h] at h1 ⊢; exact .inr (by rw [h1]; exact .head _)
        · rw [if_neg h] at h1 ⊢; exact .inl h1
      · exact .inr (.tail _ h1)
    · by_cases h : b > a
      · rw [if_pos h] at h2 ⊢; omega
      · rw [if_neg h] at h2 ⊢; exact h2
    · rcases List.mem_cons.mp hx with rfl | hx
      · by_cases h : x > a
        · rw [if_pos h] at h2 ⊢; exact h2
        · rw [if_neg h] at h2 ⊢; omega
      · exact h3 x hx
theorem maxI_eq {ns : List Int} {m k : Int} (h : maxI ns = some m) (h1 : k ∈ ns) (h2 : ∀ x ∈ ns, x ≤ k) : m = k := by
  cases ns with
  | nil => cases h
  | cons a r =>
    cases h
    obtain ⟨b1, b2, b3⟩ := foldl_max r a
    have c1 : r.foldl (fun m x => if x > m then x else m) a ∈ a :: r := by
      rcases b1 with b1 | b1
      · rw [b1]; exact .head _
      · exact .tail _ b1
    have c2 := h2 _ c1
    rcases List.mem_cons.mp h1 with rfl | h1
    · omega
    · have := b3 _ h1; omega
theorem max_snd {v : Value} {xs : List PyData} {ns : List Int} {m : Int} (I : Si w A env sc F ML M Hs vs wd s n) (en : intsD xs = some ns) (em : maxI ns = some m) (r : Vr w.params s.heap M Hs ML v (.dat (.list xs))) (hQ : PostE w F ML M Hs s Q (.dat (.int m)) wd) : wpAny (model PG w) A (call (.builtin "max") [v]) Q X s := by
  obtain ⟨l, ws, rfl, hl, rs⟩ := listV_inv (pv := .dat (.list xs)) rfl r
  obtain ⟨xs', rfl, hn⟩ := ints_items (rs.ints en)
  have hne : 0 < xs'.size := by
    induction ns with
    | nil => cases em
    | cons a q =>
      have := congrArg List.length hn
      simp at this
      omega
  refine wpAny_sz (max_intList I.ai.handled hl hne fun v h' tk hv hk hz => ?_)
  obtain ⟨t, rfl⟩ := intItems_at hv
  obtain ⟨h1, h2⟩ := argBest_gt (numAt xs') (xs'.size - 1)
  have key : m = numAt xs' (argBest (fun i j => decide (numAt xs' i > numAt xs' j)) (xs'.size - 1)) := by
    have hlen : ns.length = xs'.size := by rw [← hn]; simp
    refine maxI_eq em ?_ fun x hx => ?_
    · rw [numAt_eq, hn, List.getD_eq_getElem?_getD, List.getElem?_eq_getElem (by omega)]
      simp
    · obtain ⟨j, hj, rfl⟩ := List.mem_iff_getElem.mp hx
      have := h2 j (by omega)
      rw [numAt_eq, hn, List.getD_eq_getElem?_getD, List.getElem?_eq_getElem hj] at this
      simpa using this
  rw [← key]
  exact hQ.kpd I ⟨hk, hz⟩ (Rd.int _ _).vr
theorem max2_snd {u v : Value} {a b : Int} (I : Si w A env sc F ML M Hs vs wd s n) (ra : Vr w.params s.heap M Hs ML u (.dat (.int a))) (rb : Vr w.params s.heap M Hs ML v (.dat (.int b))) (hQ : PostE w F ML M Hs s Q (.dat (.int (if b > a then b else a))) wd) : wpAny (model PG w) A (call (.builtin "max") [u, v]) Q X s := by
  obtain ⟨t, rfl⟩ := ra.rd.int_inv
  obtain ⟨t', rfl⟩ := rb.rd.int_inv
  refine wpAny_sz (max_two_ints I.ai.handled fun h' tk hk hz => ?_)
  have := hQ.kpd I (tk := tk) (v := if b > a then .int b t' else .int a t) ⟨hk, hz⟩
  refine this ?_
  by_cases h : b > a
  · rw [if_pos h, if_pos h]; exact (Rd.int _ _).vr
  · rw [if_neg h, if_neg h]; exact (Rd.int _ _).vr
theorem copy_snd {v : Value} {xs : List PyData} (I : Si w A env sc F ML M Hs vs wd s n) (hz : xs.length ≤ small) (r : Vr w.params s.heap M Hs ML v (.dat (.list xs))) (hQ : PostE w F ML M Hs s Q (.dat (.list xs)) wd) : wpAny (model PG w) A (call (.type "list") [v]) Q X s := by
  obtain ⟨l, ws, rfl, hl, rs⟩ := listV_inv (pv := .dat (.list xs)) rfl r
  obtain ⟨o, ho, hc, k, hd⟩ := hl
  have sz := rs.len
  simp only [Array.length_toList] at sz
  refine wpAny_sz (call_list_seq l (.inl rfl) ho hc hd (fun h' c' hk hD hz' => ?_) (size_small (by omega)))
  have k : Kp s.heap h' := ⟨hk, hz'⟩
  exact hQ.kpd I (tk := s.toks) k (Rd.list ⟨_, hD, rfl, _, rfl⟩ I.mt.new (rs.kp k)).vr
end
/-- an order on the values that P tells -/
structure OrdOn (P : PyData → Bool) (lt : PyData → PyData → Bool) : Prop where
  tot : ∀ a b, P a = true → P b = true → lt a b = true → lt b a = false
  trans : ∀ a b c, P a = true → P b = true → P c = true → lt b a = false → lt c b = false → lt c a = false
  anti : ∀ a b, P a = true → P b = true → lt b a = false → lt a b = false → a = b
noncomputable abbrev Srt (lt : PyData → PyData → Bool) (xs : List PyData) : Prop := xs.Pairwise fun a b => lt b a = false
section
variable {P : PyData → Bool} {lt : PyData → PyData → Bool}
theorem ins_perm (x : PyData) : ∀ xs : List PyData, (insD lt x xs).Perm (x :: xs)
  | [] => .refl _
  | y :: r => by
    unfold insD
    split
    · exact ((ins_perm x r).cons y).trans (.swap x y r)
    · exact .refl _
theorem sort_perm : ∀ xs : List PyData, (sortD lt xs).Perm xs
  | [] => .refl _
  | x :: r => (ins_perm x _).trans ((sort_perm r).cons x)
theorem ins_srt (O : OrdOn P lt) {x : PyData} (hx : P x = true) : ∀ {xs : List PyData}, (∀ y ∈ xs, P y = true) → Srt lt xs → Srt lt (insD lt x xs)
  | [], _, _ => List.pairwise_singleton _ _
  | y :: r, hP, hs => by
    have hy := hP y (.head _)
    have hs' := List.pairwise_cons.mp hs
    unfold insD
    split
    · rename_i h
      refine List.pairwise_cons.mpr ⟨fun z hz => ?_, ins_srt O hx (fun z hz => hP z (.tail _ hz)) hs'.2⟩
      rcases List.mem_cons.mp ((ins_perm x r).mem_iff.mp hz) with rfl | hz
      · exact O.tot _ _ hy hx h
      · exact hs'.1 z hz
    · rename_i h
      have h : lt y x = false := by simpa using h
      refine List.pairwise_cons.mpr ⟨fun z hz => ?_, hs⟩
      rcases List.mem_cons.mp hz with rfl | hz
      · exact h
      · exact O.trans _ _ _ hx hy (hP z (.tail _ hz)) h (hs'.1 z hz)
theorem sort_srt (O : OrdOn P lt) : ∀ {xs : List PyData}, (∀ y ∈ xs, P y = true) → Srt lt (sortD lt xs)
  | [], _ => List.Pairwise.nil
  | x :: r, hP => ins_srt O (hP x (.head _)) (fun y hy => hP y (.tail _ ((sort_perm r).mem_iff.mp hy))) (sort_srt O fun y hy => hP y (.tail _ hy))
theorem sort_uniq (O : OrdOn P lt) {xs ys : List PyData} (hP : ∀ y ∈ xs, P y = true) (hp : ys.Perm xs) (hs : Srt lt ys) : ys = sortD lt xs :=
  List.Perm.eq_of_pairwise (fun a b ha hb h1 h2 => O.anti a b (hP a (hp.mem_iff.mp ha)) (hP b ((sort_perm xs).mem_iff.mp hb)) h1 h2) hs (sort_srt O hP) (hp.trans (sort_perm xs).symm)
end
theorem strLt_asymm {a b : Str} (h : strLt a b = true) : strLt b a = false := by
  unfold strLt at *
  rw [decide_eq_true_eq] at h
  rw [decide_eq_false_iff_not]
  exact fun h' => List.lt_irrefl _ (List.lt_trans h h')
theorem strLt_trans {a b c : Str} (h1 : strLt b a = false) (h2 : strLt c b = false) : strLt c a = false := by
  unfold strLt at *
  rw [decide_eq_false_iff_not, List.not_lt] at *
  exact List.le_trans h1 h2
theorem strLt_anti {a b : Str} (h1 : strLt b a = false) (h2 : strLt a b = false) : a = b := by
  unfold strLt at *
  rw [decide_eq_false_iff_not, List.not_lt] at *
  have := List.le_antisymm h1 h2
  obtain ⟨⟨a⟩⟩ := a
  obtain ⟨⟨b⟩⟩ := b
  simp only at this
  rw [this]
theorem isStr_inv {a : PyData} (h : isStrD a = true) : ∃ x, a = .str x := by
  cases a with
  | str x => exact ⟨x, rfl⟩
  | _ => cases h
theorem ord_str : OrdOn isStrD ltStr := by
  refine ⟨fun a b ha hb h => ?_, fun a b c ha hb hc h1 h2 => ?_, fun a b ha hb h1 h2 => ?_⟩
  · obtain ⟨x, rfl⟩ := isStr_inv ha
    obtain ⟨y, rfl⟩ := isStr_inv hb
    exact strLt_asymm h
  · obtain ⟨x, rfl⟩ := isStr_inv ha
    obtain ⟨y, rfl⟩ := isStr_inv hb
    obtain ⟨z, rfl⟩ := isStr_inv hc
    exact strLt_trans h1 h2
  · obtain ⟨x, rfl⟩ := isStr_inv ha
    obtain ⟨y, rfl⟩ := isStr_inv hb
    rw [strLt_anti h1 h2]
theorem rising_pw : ∀ (ss : List Str) (p : Str), risingS p ss = true → (p :: ss).Pairwise (fun a b => strLt b a = false)
  | [], _, _ => List.pairwise_singleton _ _
  | x :: r, p, h => by
    unfold risingS at h
    rw [Bool.and_eq_true, Bool.not_eq_true', ltCps_eq] at h
    have ih := rising_pw r x h.2
    refine List.pairwise_cons.mpr ⟨fun z hz => ?_, ih⟩
    rcases List.mem_cons.mp hz with rfl | hz
    · exact h.1
    · exact strLt_trans h.1 ((List.pairwise_cons.mp ih).1 z hz)
theorem sorted_pw (ss : List Str) (h : sortedS ss = true) : ss.Pairwise (fun a b => strLt b a = false) := by
  induction ss with
  | nil => exact .nil
  | cons x r => exact rising_pw r x h
section
variable {w : World} {A : Around} {env : Env} {sc : Scope} {F ML M : List Addr} {Hs : HL} {vs : Vars} {wd : Wd} {s : Shared} {n : Nat} {pv : PV} {Q : Value → Shared → Prop} {X : Value → Shared → Prop}
theorem sorted_str_snd {v : Value} {xs : List PyData} (I : Si w A env sc F ML M Hs vs wd s n) (hz : xs.length ≤ 60) (hs : xs.all isStrD = true) (r : Vr w.params s.heap M Hs ML v (.dat (.list xs))) (hQ : PostE w F ML M Hs s Q (.dat (.list (sortD ltStr xs))) wd) : wpAny (model PG w) A (call (.builtin "sorted") [v]) Q X s := by
  obtain ⟨l, ws, rfl, hl, rs⟩ := listV_inv (pv := .dat (.list xs)) rfl r
  have sz := rs.len
  obtain ⟨ss, rfl, S⟩ := rs.strs hs
  have hl' : s.heap.IsList l ws.toList.toArray := by simpa using hl
  refine wpAny_sz (sorted_strs hl' S (by omega) fun out ss' h1 h2 h3 hz' => ?_)
  have k : Kp s.heap (sortedAll s.heap ws.toList out) := ⟨fun a o e => sortedAll_old e, hz'⟩
  obtain ⟨e, he⟩ := sortedAll_at s.heap ws.toList out
  have hnM : s.heap.objs.size + 1 ∉ M := fun x => absurd (I.mt _ x) (Nat.not_lt.mpr (Nat.le_succ _))
  have key : ss'.map PyData.str = sortD ltStr (ss.map .str) := by
    refine sort_uniq ord_str (fun y hy => ?_) (h2.map _) ?_
    · obtain ⟨z, _, rfl⟩ := List.mem_map.mp hy; rfl
    · show List.Pairwise _ (ss'.map PyData.str)
      rw [List.pairwise_map]
      exact sorted_pw ss' h3
  rw [← key] at hQ
  exact hQ.kpd I (tk := s.toks) k (Rd.list ⟨_, he, rfl, _, rfl⟩ hnM (RdA.of_strs h1)).vr
theorem items_strs {x : Str} {ys : Array Value} (h : ItemsOf (SignAt x) ys x.cps.size) {h' : Heap} : RdA h' M ys.toList (x.cps.toList.map fun c => .str ⟨#[c]⟩) := by
  have key : ∀ (l : List Nat) (vs : List Value), vs.length = l.length → (∀ (i : Nat) v, vs[i]? = some v → ∃ c u, l[i]? = some c ∧ v = .str ⟨#[c]⟩ u) → RdA h' M vs (l.map fun c => .str ⟨#[c]⟩) := by
    intro l
    induction l with
    | nil => intro vs hl _; rw [List.length_eq_zero_iff.mp hl]; exact .nil
    | cons c l ih =>
      intro vs hl hv
      induction vs with
      | nil => cases hl
      | cons v vs =>
        obtain ⟨c', u, h1, rfl⟩ := hv 0 v rfl
        cases h1
        exact .cons (Rd.str _ _) (ih vs (by simpa using hl) fun i v hi => by simpa using hv (i + 1) v (by simpa using hi))
  refine key _ _ (by simp [h.1]) fun i v hv => ?_
  obtain ⟨c, u, hc, rfl⟩ := h.2 i v (by simpa using hv)
  exact ⟨c, u, by simpa using hc, rfl⟩
theorem abcd_snd {v : Value} {x : Str} (I : Si w A env sc F ML M Hs vs wd s n) (hz : x.cps.size ≤ small) (r : Vr w.params s.heap M Hs ML v (.dat (.str x))) (hQ : PostE w F ML M Hs s Q (.dat (.list (x.cps.toList.map fun c => .str ⟨#[c]⟩))) wd) : wpAny (model PG w) A (call (.type "list") [v]) Q X s := by
  obtain ⟨t, rfl⟩ := r.rd.str_inv
  refine wpAny_sz (call_list_str I.ai.handled x t (fun h' tk acc' c' hk hD hacc hz' => ?_) (size_small hz))
  have k : Kp s.heap h' := ⟨hk, hz'⟩
  exact hQ.kpd I k (Rd.list ⟨_, hD, rfl, _, rfl⟩ I.mt.new (items_strs hacc)).vr
end
/-- a sort's questions answered by a table -/
noncomputable def evalK {α : Type} (lt : Nat → Nat → Bool) : KasT α → α
  | .ret a => a
  | .ask i j k => evalK lt (k (lt i j))
noncomputable def okK {α : Type} (lt : Nat → Nat → Bool) (n : Nat) : KasT α → Bool
  | .ret _ => true
  | .ask i j k => decide (i < n) && decide (j < n) && decide (i ≠ j) && okK lt n (k (lt i j))
theorem kas_pure {α : Type} {lt : Nat → Nat → Bool} {n : Nat} {cmp : Nat → Nat → (Bool → Shared → Prop) → Shared → Prop} {Q : α → Shared → Prop} {s : Shared} (hc : ∀ i j (C : Bool → Shared → Prop), i < n → j < n → i ≠ j → C (lt i j) s → cmp i j C s) :
    ∀ t : KasT α, okK lt n t = true → Q (evalK lt t) s → t.kasWp cmp Q s
  | .ret a, _, h => h
  | .ask i j k, ho, h => by
    unfold okK at ho
    simp only [Bool.and_eq_true, decide_eq_true_eq] at ho
    exact hc i j _ ho.1.1.1 ho.1.1.2 ho.1.2 (kas_pure hc (k (lt i j)) ho.2 h)
noncomputable def tab4 (a b c d e f : Bool) : Nat → Nat → Bool
  | 0, 1 => a | 1, 0 => !a | 0, 2 => b | 2, 0 => !b | 0, 3 => c | 3, 0 => !c
  | 1, 2 => d | 2, 1 => !d | 1, 3 => e | 3, 1 => !e | 2, 3 => f | 3, 2 => !f
  | _, _ => false
noncomputable def trans4 (lt : Nat → Nat → Bool) : Bool := (List.range 4).all fun i => (List.range 4).all fun j => (List.range 4).all fun k => i == j || j == k || i == k || !(lt i j) || !(lt j k) || lt i k
noncomputable def ends4 (lt : Nat → Nat → Bool) : List Nat → Bool
  | [i, j, k, l] => lt i j && lt j k && lt k l && decide ([i, j, k, l].Perm (List.range 4))
  | _ => false
noncomputable def good4 (lt : Nat → Nat → Bool) : Bool := okK lt 4 (kas_sort 4) && ends4 lt (evalK lt (kas_sort 4)).toList
theorem four : ∀ a b c d e f : Bool, trans4 (tab4 a b c d e f) = true → good4 (tab4 a b c d e f) = true := by decide +kernel
inductive Ends4 (lt : Nat → Nat → Bool) : List Nat → Prop
  | mk {i j k l} : lt i j = true → lt j k = true → lt k l = true → [i, j, k, l].Perm (List.range 4) → Ends4 lt [i, j, k, l]
theorem ends4_inv {lt : Nat → Nat → Bool} {p : List Nat} (h : ends4 lt p = true) : Ends4 lt p := by
  match p, h with
  | [], h => cases h
  | [_], h => cases h
  | [_, _], h => cases h
  | [_, _, _], h => cases h
  | [i, j, k, l], h =>
    obtain ⟨h1, h2⟩ := and2 h
    exact ⟨(and3 h1).1, (and3 h1).2.1, (and3 h1).2.2, of_decide_eq_true h2⟩
  | _ :: _ :: _ :: _ :: _ :: _, h => cases h

section
variable {prog : Program} {w : World} {A : Around} {E : Value → Shared → Prop} {s : Shared} {vs : List Value}
/-- what the sort's end needs -/
noncomputable def RawFin (a : Addr) (e : Nat) (out : List Value) (C : Shared → Prop) (s : Shared) : Prop :=
  s.heap.get? a = some (seqObj "list" #[] e) ∧ ∀ h' c, Heap.SameBut a s.heap h' → h'.get? a = some (seqObj "list" out.toArray c) → C { s with heap := h' }
theorem raw_sort {a : Addr} {n : Nat} {P : PySem.Fin → Shared → Prop} (ho : s.heap.get? a = some (seqObj "list" vs.toArray n)) (h2 : 2 ≤ vs.length) (h64 : vs.length < 64)
    (h : ∀ e h', (∀ b o, b ≠ a → s.heap.get? b = some o → h'.get? b = some o) → h'.get? a = some (seqObj "list" #[] e) →
      wpAny (model prog w) A (keyKind' vs.toArray) (fun κ s' => (kas_sort vs.length).kasWp (kas_ask prog w A κ vs) (fun p s'' => RawFin a e (p.toList.map fun i => vs.getD i Value.none) (fun s3 => P (.done (.ret .none)) s3) s'') s') (fun _ _ => False) { s with heap := h' }) :
    wpAny (model prog w) A (Builtin.«list.sort» ⟨[.ref a], []⟩) P E s := by
  have s1 := Heap.SameBut.update s.heap a (Obj.mapSeq fun _ => (#[] : Array Value))
  obtain ⟨e1, ho1⟩ : ∃ e1, (s.heap.update a (Obj.mapSeq fun _ => (#[] : Array Value))).get? a = some (seqObj "list" #[] e1) := ⟨_, get?_update_seq ho fun _ => #[]⟩
  have ask := h e1 (((s.heap.update a (Obj.mapSeq fun _ => (#[] : Array Value))).push (seqObj "tuple" vs.toArray 0)).push (seqObj "list" #[] 0))
    (fun b o hb e => Heap.get?_push_of_some _ (Heap.get?_push_of_some _ (s1.extBut b o hb e))) (Heap.get?_push_of_some _ (Heap.get?_push_of_some _ ho1))
  rw [list_sort_plain]
  refine wpAny_bind (listItems_at ho rfl ?_)
  refine wpAny_bind (listUpdate_at ho rfl ?_ (by rw [List.size_toArray, sizeLine_eq]; omega) (Nat.zero_le _))
  refine wpAny_bind (seqEpoch_at ho1 rfl ?_)
  refine wpAny_bind (wpAny_newTuple ?_ (by show vs.length ≤ _; rw [sizeLine_eq]; omega))
  refine wpAny_bind (wpAny_newList ?_ (Nat.zero_le _))
  refine wpAny_holding ?_
  show wpAny (model prog w) A _ P E { s with heap := ((s.heap.update a (Obj.mapSeq fun _ => (#[] : Array Value))).push (seqObj "tuple" vs.toArray 0)).push (seqObj "list" #[] 0) }
  dsimp only
  have hn2 : ¬ vs.toArray.size < 2 := by rw [List.size_toArray]; omega
  rw [if_neg hn2, if_neg hn2]
  refine wpAny_bind (wpAny_mono ask (fun κ s0 hk => ?_) fun _ _ x => x.elim)
  refine wpAny_bind (wpAny_mono (kat_run (Q := fun st' s' => ∃ p : Array Nat, p.size = vs.length ∧ arrOf st' = p.map (kas_item (vs.toArray.zip vs.toArray)) ∧ failedOf st' = none ∧ RawFin a e1 (p.toList.map fun i => vs.getD i Value.none) (fun s'' => P (.done (.ret .none)) s'') s')
    rfl h2 h64 (fun p' st' s' a1 a2 a3 a4 => ⟨p', a1, a2, a3, a4⟩) hk) ?_ fun _ _ e => e)
  rintro ⟨⟨⟩, st'⟩ s' ⟨p, hp, har, hf, hoa, k⟩
  dsimp only
  have hout := kat_snds rfl har
  have hsz : (List.toArray (p.toList.map fun i => vs.getD i Value.none)).size = vs.length := by rw [List.size_toArray, List.length_map, Array.length_toList, hp]
  rw [hout]
  have s2 := Heap.SameBut.update s'.heap a (Obj.mapSeq fun _ => List.toArray (p.toList.map fun i => vs.getD i Value.none))
  obtain ⟨c2, hc2⟩ : ∃ c2, (s'.heap.update a (Obj.mapSeq fun _ => List.toArray (p.toList.map fun i => vs.getD i Value.none))).get? a = some (seqObj "list" (List.toArray (p.toList.map fun i => vs.getD i Value.none)) c2) := ⟨_, get?_update_seq hoa fun _ => List.toArray (p.toList.map fun i => vs.getD i Value.none)⟩
  refine wpAny_bind (seqEpoch_at hoa rfl ?_)
  refine wpAny_bind (listUpdate_at hoa rfl ?_ (Nat.zero_le _) (Nat.le_trans (Nat.le_of_eq hsz) (by rw [sizeLine_eq]; omega)))
  rw [hf]
  simp only [bne_self_eq_false, Bool.false_eq_true, if_false]
  exact wpAny_pure (k _ c2 s2 hc2)
theorem raw_sorted {l : Addr} {Q : Value → Shared → Prop} (hl : s.heap.IsList l vs.toArray) (h2 : 2 ≤ vs.length) (h64 : vs.length < 64)
    (h : ∀ D e h', s.heap.objs.size ≤ D → (∀ b o, s.heap.get? b = some o → h'.get? b = some o) → h'.get? D = some (seqObj "list" #[] e) →
      wpAny (model prog w) A.in1.in1 (keyKind' vs.toArray) (fun κ s' => (kas_sort vs.length).kasWp (kas_ask prog w A.in1.in1 κ vs) (fun p s'' => RawFin D e (p.toList.map fun i => vs.getD i Value.none) (fun s3 => Q (.ref D) s3) s'') s') (fun _ _ => False) { s with heap := h' }) :
    wpAny (model prog w) A (call (.builtin "sorted") [.ref l]) Q E s := by
  refine Calls.call_function_entry kind_sorted plain_sorted entry_sorted (args_sorted1 _) ?_
  unfold Builtin.«sorted»
  refine wpAny_bind (m := checkCount "sorted" 1 1 _) (wpAny_pure ?_)
  refine wpAny_bind (collect_list hl ?_ (by rw [sizeLine_eq]; omega))
  refine wpAny_bind (wpAny_newList ?_ (by rw [sizeLine_eq]; omega))
  have hsz : ((s.heap.push (seqObj "list" #[] 0)).update s.heap.objs.size (Obj.mapSeq (· ++ vs.toArray))).objs.size = s.heap.objs.size + 1 := by
    rw [Heap.size_update, size_push']
  have hoL : (((s.heap.push (seqObj "list" #[] 0)).update s.heap.objs.size (Obj.mapSeq (· ++ vs.toArray))).push (seqObj "list" vs.toArray 0)).get? (s.heap.objs.size + 1) = some (seqObj "list" vs.toArray 0) := by
    rw [← hsz]; exact Heap.get?_push_size _ rfl
  have keep : ∀ b o, s.heap.get? b = some o → (((s.heap.push (seqObj "list" #[] 0)).update s.heap.objs.size (Obj.mapSeq (· ++ vs.toArray))).push (seqObj "list" vs.toArray 0)).get? b = some o := fun b o q => by
    have hlt : b < s.heap.objs.size := Heap.lt_size q
    rw [Heap.get?_push_ne _ _ _ (by rw [hsz]; exact Nat.ne_of_lt (Nat.lt_succ_of_lt hlt)), Heap.get?_update_ne _ _ _ _ (Nat.ne_of_lt hlt), Heap.get?_push_ne _ _ _ (Nat.ne_of_lt hlt)]
    exact q
  show wpAny _ _ _ _ _ { s with heap := ((s.heap.push (seqObj "list" #[] 0)).update s.heap.objs.size (Obj.mapSeq (· ++ vs.toArray))).push (seqObj "list" vs.toArray 0) }
  rw [hsz]
  refine wpAny_bind (wpAny_holding (wpAny_call_entry slot_list_sort ⟨_, hoL, rfl⟩ entry_list_sort ?body (args_list_sort _)))
  case body =>
    refine raw_sort (s := { s with heap := ((s.heap.push (seqObj "list" #[] 0)).update s.heap.objs.size (Obj.mapSeq (· ++ vs.toArray))).push (seqObj "list" vs.toArray 0) }) hoL h2 h64 fun e h' k1 k2 => ?_
    refine wpAny_mono (h _ e h' (Nat.le_succ _) (fun b o q => k1 b o (fun x => absurd (Heap.lt_size q) (Nat.not_lt.mpr (by rw [x]; exact Nat.le_succ _))) (keep b o q)) k2) (fun κ s' hk => ?_) fun _ _ x => x
    rw [kat_ask_eq rfl] at hk ⊢
    exact kas_wp_mono hk fun p s'' hk' => ⟨hk'.1, fun h3 c a1 a2 => ⟨_, rfl, wpAny_pure ⟨_, rfl, hk'.2 h3 c a1 a2⟩⟩⟩
end
theorem ltPair_eq (a b c d : Str) : ltPair (.tuple [.str a, .str b]) (.tuple [.str c, .str d]) = if (a == c) = true then strLt b d else strLt a c := rfl
theorem isPair_inv {a : PyData} (h : isPairD a = true) : ∃ x y, a = .tuple [.str x, .str y] := by
  unfold isPairD at h
  cases q : tD a with
  | none => rw [q] at h; cases h
  | some l =>
    rw [q] at h
    cases tD_inv q
    match l, h with
    | [], h => cases h
    | [_], h => cases h
    | [u, v], h =>
      obtain ⟨x, hx⟩ := Option.isSome_iff_exists.mp (and2 h).1
      obtain ⟨y, hy⟩ := Option.isSome_iff_exists.mp (and2 h).2
      cases sD_inv hx; cases sD_inv hy
      exact ⟨x, y, rfl⟩
    | _ :: _ :: _ :: _, h => cases h
theorem ltPair_or {a b c d : Str} : ltPair (.tuple [.str a, .str b]) (.tuple [.str c, .str d]) = true ↔ (a = c ∧ strLt b d = true) ∨ (a ≠ c ∧ strLt a c = true) := by
  rw [ltPair_eq]
  by_cases e : a = c
  · rw [if_pos (beq_iff_eq.mpr e)]
    exact ⟨fun h => .inl ⟨e, h⟩, fun h => h.elim (·.2) fun h => absurd e h.1⟩
  · rw [if_neg (fun h => e (eq_of_beq h))]
    exact ⟨fun h => .inr ⟨e, h⟩, fun h => h.elim (fun h => absurd h.1 e) (·.2)⟩
theorem strLt_tri (a b : Str) : strLt a b = true ∨ a = b ∨ strLt b a = true := by
  cases q : strLt a b with
  | true => exact .inl rfl
  | false =>
    cases q' : strLt b a with
    | true => exact .inr (.inr rfl)
    | false => exact .inr (.inl (strLt_anti q' q))
theorem strLt_irr (a : Str) : strLt a a = false := by
  cases q : strLt a a with
  | false => rfl
  | true => exact absurd (strLt_asymm q) (by rw [q]; decide)
theorem ltPair_no {a b c d : Str} : ltPair (.tuple [.str a, .str b]) (.tuple [.str c, .str d]) = false ↔ strLt c a = true ∨ (a = c ∧ strLt b d = false) := by
  rw [ltPair_eq]
  by_cases e : a = c
  · rw [if_pos (beq_iff_eq.mpr e)]
    exact ⟨fun h => .inr ⟨e, h⟩, fun h => h.elim (fun h => by rw [e, strLt_irr] at h; cases h) (·.2)⟩
  · rw [if_neg (fun h => e (eq_of_beq h))]
    exact ⟨fun h => .inl ((strLt_tri c a).resolve_right fun k => k.elim (fun k => e k.symm) fun k => by rw [h] at k; cases k), fun h => h.elim strLt_asymm fun h => absurd h.1 e⟩
theorem str_up {a b c : Str} (h1 : strLt a b = true) (h2 : strLt b c = true) : strLt a c = true := by
  unfold strLt at *
  rw [decide_eq_true_eq] at *
  exact List.lt_trans h1 h2
theorem ord_pair : OrdOn isPairD ltPair := by
  refine ⟨fun a b ha hb h => ?_, fun a b c ha hb hc h1 h2 => ?_, fun a b ha hb h1 h2 => ?_⟩
  · obtain ⟨x, y, rfl⟩ := isPair_inv ha
    obtain ⟨x', y', rfl⟩ := isPair_inv hb
    rcases ltPair_or.mp h with ⟨e, h⟩ | ⟨_, h⟩
    · exact ltPair_no.mpr (.inr ⟨e.symm, strLt_asymm h⟩)
    · exact ltPair_no.mpr (.inl h)
  · obtain ⟨x, y, rfl⟩ := isPair_inv ha
    obtain ⟨x', y', rfl⟩ := isPair_inv hb
    obtain ⟨x'', y'', rfl⟩ := isPair_inv hc
    refine ltPair_no.mpr ?_
    rcases ltPair_no.mp h1 with k1 | ⟨rfl, k1⟩ <;> rcases ltPair_no.mp h2 with k2 | ⟨rfl, k2⟩
    · exact .inl (str_up k1 k2)
    · exact .inl k1
    · exact .inl k2
    · exact .inr ⟨rfl, strLt_trans k1 k2⟩
  · obtain ⟨x, y, rfl⟩ := isPair_inv ha
    obtain ⟨x', y', rfl⟩ := isPair_inv hb
    rcases ltPair_no.mp h1 with k1 | ⟨rfl, k1⟩
    · rcases ltPair_no.mp h2 with k2 | ⟨rfl, _⟩
      · exact absurd (strLt_asymm k1) (by rw [k2]; decide)
      · rw [strLt_irr] at k1; cases k1
    · rcases ltPair_no.mp h2 with k2 | ⟨_, k2⟩
      · rw [strLt_irr] at k2; cases k2
      · rw [strLt_anti k1 k2]
theorem strLt_tot {a b : Str} (h : a ≠ b) : strLt b a = !strLt a b := by
  cases q : strLt a b with
  | true => exact strLt_asymm q
  | false =>
    cases q' : strLt b a with
    | true => rfl
    | false => exact absurd (strLt_anti q' q) h
section
variable {h' : Heap} {w : World} {A : Around} {env : Env} {sc : Scope} {F ML M : List Addr} {Hs : HL} {vs : Vars} {wd : Wd} {s : Shared} {n : Nat} {pv : PV} {Q : Value → Shared → Prop} {X : Value → Shared → Prop}
/-- a tuple of two strs -/
noncomputable def PairAt (h : Heap) (v : Value) (x y : Str) : Prop := ∃ a t u, v = .ref a ∧ IsTup h a #[.str x t, .str y u]
theorem PairAt.kp {h h' : Heap} {v : Value} {x y : Str} (p : PairAt h v x y) (k : ∀ b o, h.get? b = some o → h'.get? b = some o) : PairAt h' v x y := by
  obtain ⟨a, t, u, e, o, ho, r⟩ := p
  exact ⟨a, t, u, e, o, k _ _ ho, r⟩
theorem pair_at {v : Value} {x y : Str} (r : Rd s.heap M v (.tuple [.str x, .str y])) : PairAt s.heap v x y := by
  obtain ⟨a, ws, rfl, ht, _, _, rs⟩ := r.tup_inv
  obtain ⟨v1, _, e1, r1, rs⟩ := rs.cons_inv
  obtain ⟨v2, _, e2, r2, rs⟩ := rs.cons_inv
  obtain ⟨t, rfl⟩ := r1.str_inv
  obtain ⟨u, rfl⟩ := r2.str_inv
  have : ws = #[.str x t, .str y u] := by rw [← Array.toArray_toList (xs := ws), e1, e2, rs.nil_inv]
  subst this
  exact ⟨a, t, u, rfl, ht⟩
theorem pair_lt {h : Heap} {tk : Nat} {u v : Value} {x y x' y' : Str} {C : Bool → Shared → Prop} {E : Value → Shared → Prop} (hp : PairAt h u x y) (hq : PairAt h v x' y') (hne : x ≠ x') (hC : C (strLt x x') { s with heap := h, toks := tk }) :
    wpAny (model PG w) A (keyLt' (tuples' true) u v) C E { s with heap := h, toks := tk } := by
  obtain ⟨a, t1, t2, rfl, o, ho, hc, k, hd⟩ := hp
  obtain ⟨b, t3, t4, rfl, o', ho', hc', k', hd'⟩ := hq
  refine kat_lt (s := { s with heap := h, toks := tk }) ho hd ho' hd' ?_
  refine kat_cons (wpAny_eqBool_str ?_)
  rw [decide_eq_false hne]
  exact kat_no (oneLt_str hC)
/-- the pairs' firsts, for the sort -/
theorem pairs_kat {h h' : Heap} (k : ∀ b o, h.get? b = some o → h'.get? b = some o) {xs : List PyData} : ∀ {vs : List Value}, xs.all isPairD = true → (∀ {v x y}, Rd s.heap M v (.tuple [.str x, .str y]) → PairAt h v x y) → RdA s.heap M vs xs → ∃ fs, KatTups h' vs fs ∧ fs.length = xs.length ∧ ∀ f ∈ fs, ∃ x t, f = .str x t := by
  induction xs with
  | nil =>
    intro vs _ _ r
    rw [r.nil_inv]
    exact ⟨[], .nil, rfl, fun _ h => no_mem h⟩
  | cons d ds ih =>
    intro vs hs hp r
    rw [List.all_cons] at hs
    obtain ⟨v, vs', rfl, r1, rs⟩ := r.cons_inv
    obtain ⟨fs, kt, hl, hf⟩ := ih (and2 hs).2 hp rs
    obtain ⟨x, y, rfl⟩ := isPair_inv (and2 hs).1
    obtain ⟨a, t, u, rfl, o, ho, hc, m, hd⟩ := (hp r1).kp k
    refine ⟨.str x t :: fs, .cons ho hc hd rfl kt, congrArg (· + 1) hl, fun f hm => ?_⟩
    rcases List.mem_cons.mp hm with rfl | hm
    · exact ⟨x, t, rfl⟩
    · exact hf f hm
/-- an order on four, by a table -/
theorem table4 (fs : Nat → Str) (hd : ∀ i j, i < 4 → j < 4 → i ≠ j → fs i ≠ fs j) : ∃ lt : Nat → Nat → Bool, (∀ i j, i < 4 → j < 4 → i ≠ j → lt i j = strLt (fs i) (fs j)) ∧ good4 lt = true := by
  have hlt : ∀ i j, i < 4 → j < 4 → i ≠ j → tab4 (strLt (fs 0) (fs 1)) (strLt (fs 0) (fs 2)) (strLt (fs 0) (fs 3)) (strLt (fs 1) (fs 2)) (strLt (fs 1) (fs 3)) (strLt (fs 2) (fs 3)) i j = strLt (fs i) (fs j) := by
    have op : ∀ i j, i < 4 → j < 4 → i ≠ j → (!strLt (fs i) (fs j)) = strLt (fs j) (fs i) := fun i j hi hj h => (strLt_tot (hd i j hi hj h)).symm
    intro i j hi hj hij
    match i, j with
    | 0, 1 => rfl
    | 0, 2 => rfl
    | 0, 3 => rfl
    | 1, 0 => exact op 0 1 hj hi (Ne.symm hij)
    | 1, 2 => rfl
    | 1, 3 => rfl
    | 2, 0 => exact op 0 2 hj hi (Ne.symm hij)
    | 2, 1 => exact op 1 2 hj hi (Ne.symm hij)
    | 2, 3 => rfl
    | 3, 0 => exact op 0 3 hj hi (Ne.symm hij)
    | 3, 1 => exact op 1 3 hj hi (Ne.symm hij)
    | 3, 2 => exact op 2 3 hj hi (Ne.symm hij)
    | 0, 0 | 1, 1 | 2, 2 | 3, 3 => exact absurd rfl hij
    | i + 4, _ => omega
    | 0, j + 4 | 1, j + 4 | 2, j + 4 | 3, j + 4 => omega
  refine ⟨_, hlt, four _ _ _ _ _ _ ?_⟩
  generalize tab4 (strLt (fs 0) (fs 1)) (strLt (fs 0) (fs 2)) (strLt (fs 0) (fs 3)) (strLt (fs 1) (fs 2)) (strLt (fs 1) (fs 3)) (strLt (fs 2) (fs 3)) = lt at *
  unfold trans4
  simp only [List.all_eq_true, List.mem_range]
  intro i hi j hj k hk
  by_cases a : i = j
  · simp [a]
  by_cases b : j = k
  · simp [b]
  by_cases c : i = k
  · simp [c]
  rw [hlt i j hi hj a, hlt j k hj hk b, hlt i k hi hk c]
  cases q1 : strLt (fs i) (fs j) with
  | false => simp
  | true =>
    cases q2 : strLt (fs j) (fs k) with
    | false => simp
    | true => rw [str_up q1 q2]; simp
theorem Ends4.lt {lt : Nat → Nat → Bool} {p : List Nat} (h : Ends4 lt p) : ∀ z ∈ p, z < 4 := by
  induction h with
  | mk _ _ _ a4 => exact fun z hz => List.mem_range.mp (a4.mem_iff.mp hz)
/-- four pairs with firsts of their own, in the table's order -/
theorem srt4 {dv : Nat → PyData} {fs gs : Nat → Str} {lt : Nat → Nat → Bool} {p : List Nat} (hdv : ∀ z, z < 4 → dv z = .tuple [.str (fs z), .str (gs z)]) (hlt : ∀ i j, i < 4 → j < 4 → i ≠ j → lt i j = strLt (fs i) (fs j)) (h : Ends4 lt p) : p.map dv = sortD ltPair ((List.range 4).map dv) := by
  have pd : ∀ z, z < 4 → isPairD (dv z) = true := fun z hz => by rw [hdv z hz]; rfl
  induction h with
  | mk a1 a2 a3 a4 =>
    rename_i i j k m
    have lt4 : ∀ z ∈ [i, j, k, m], z < 4 := fun z hz => List.mem_range.mp (a4.mem_iff.mp hz)
    have hi := lt4 i (.head _)
    have hj := lt4 j (.tail _ (.head _))
    have hk := lt4 k (.tail _ (.tail _ (.head _)))
    have hm := lt4 m (.tail _ (.tail _ (.tail _ (.head _))))
    have nd : [i, j, k, m].Nodup := a4.nodup_iff.mpr List.nodup_range
    simp only [List.nodup_cons, List.mem_cons, List.not_mem_nil, or_false, not_or] at nd
    obtain ⟨⟨d1, d2, d3⟩, ⟨d4, d5⟩, d6, _⟩ := nd
    rw [hlt _ _ hi hj d1] at a1
    rw [hlt _ _ hj hk d4] at a2
    rw [hlt _ _ hk hm d6] at a3
    have no : ∀ {y z}, y < 4 → z < 4 → strLt (fs y) (fs z) = true → ltPair (dv z) (dv y) = false := fun {y z} hy hz h => by
      rw [hdv y hy, hdv z hz]
      exact ltPair_no.mpr (.inl h)
    refine sort_uniq ord_pair (fun y hy => ?_) (a4.map dv) ?_
    · obtain ⟨z, hz, rfl⟩ := List.mem_map.mp hy
      exact pd z (List.mem_range.mp hz)
    · have b1 := str_up a1 a2
      have b2 := str_up a2 a3
      show List.Pairwise _ [dv i, dv j, dv k, dv m]
      simp only [List.pairwise_cons, List.mem_cons, List.not_mem_nil, or_false, forall_eq_or_imp, forall_eq, List.Pairwise.nil, and_true]
      exact ⟨⟨no hi hj a1, no hi hk b1, no hi hm (str_up a1 b2)⟩, ⟨no hj hk a2, no hj hm b2⟩, no hk hm a3, fun _ h => nomatch h⟩
theorem getD_lt {α : Type} {xs : List α} {d : α} {z : Nat} (h : z < xs.length) : xs[z]? = some (xs.getD z d) := by
  rw [List.getD_eq_getElem?_getD, List.getElem?_eq_getElem h]; rfl
theorem range_getD {xs : List PyData} {n : Nat} (h : xs.length = n) : (List.range n).map (fun z => xs.getD z PyData.none) = xs :=
  List.ext_getElem (by rw [List.length_map, List.length_range, h]) fun i h1 h2 => by
    rw [List.getElem_map, List.getElem_range, List.getD_eq_getElem?_getD, List.getElem?_eq_getElem h2]; rfl
theorem rda_pick {vs : List Value} {ds : List PyData} (r : RdA s.heap M vs ds) (k : Kp s.heap h') : ∀ {p : List Nat}, (∀ z ∈ p, z < ds.length) → RdA h' M (p.map fun i => vs.getD i Value.none) (p.map fun i => ds.getD i PyData.none)
  | [], _ => .nil
  | z :: p, h => by
    obtain ⟨v, hv, rv⟩ := r.get (getD_lt (d := PyData.none) (h z (.head _)))
    rw [List.map_cons, List.map_cons, show vs.getD z Value.none = v by rw [List.getD_eq_getElem?_getD, hv]; rfl]
    exact .cons (rv.kp k) (rda_pick r k fun z hz => h z (.tail _ hz))
theorem sorted_pair_snd {v : Value} {xs : List PyData} (I : Si w A env sc F ML M Hs vs wd s n) (hl4 : xs.length = 4) (hs : xs.all isPairD = true) (hn : (xs.map firstD).Nodup) (r : Vr w.params s.heap M Hs ML v (.dat (.list xs))) (hQ : PostE w F ML M Hs s Q (.dat (.list (sortD ltPair xs))) wd) :
    wpAny (model PG w) A (call (.builtin "sorted") [v]) Q X s := by
  obtain ⟨l, ws, rfl, hl, rs⟩ := listV_inv (pv := .dat (.list xs)) rfl r
  have sz := rs.len
  rw [hl4] at sz
  have hl' : s.heap.IsList l ws.toList.toArray := by rw [Array.toArray_toList]; exact hl
  -- the pairs, by their numbers
  have hdv : ∀ z, z < 4 → ∃ x y, xs.getD z PyData.none = .tuple [.str x, .str y] := fun z hz => isPair_inv (List.all_eq_true.mp hs _ (List.mem_of_getElem? (getD_lt (d := PyData.none) (by rw [hl4]; exact hz))))
  let fs : Nat → Str := fun z => firstD (xs.getD z PyData.none)
  have hd : ∀ i j, i < 4 → j < 4 → i ≠ j → fs i ≠ fs j := fun i j hi hj h e => by
    refine h ((List.getElem?_inj (by rw [List.length_map, hl4]; exact hi) hn).mp ?_)
    rw [List.getElem?_map, List.getElem?_map, getD_lt (d := PyData.none) (by rw [hl4]; exact hi), getD_lt (d := PyData.none) (by rw [hl4]; exact hj)]
    exact congrArg some e
  have hpr : ∀ z, z < 4 → ∃ y, xs.getD z PyData.none = .tuple [.str (fs z), .str y] ∧ PairAt s.heap (ws.toList.getD z Value.none) (fs z) y := fun z hz => by
    obtain ⟨x, y, e⟩ := hdv z hz
    have ex : fs z = x := by show firstD _ = _; rw [e]; rfl
    obtain ⟨v, hv, rv⟩ := rs.get (getD_lt (d := PyData.none) (by rw [hl4]; exact hz))
    rw [e] at rv
    refine ⟨y, by rw [ex]; exact e, ?_⟩
    rw [show ws.toList.getD z Value.none = v by rw [List.getD_eq_getElem?_getD, hv]; rfl, ex]
    exact pair_at rv
  obtain ⟨lt, hlt, G⟩ := table4 fs hd
  obtain ⟨G1, G2⟩ := and2 G
  have G2 := ends4_inv G2
  refine wpAny_sz (raw_sorted hl' (by rw [sz]; decide) (by rw [sz]; decide) fun D e h' hD k1 k2 => ?_)
  obtain ⟨ks, KT, kl, kf⟩ := pairs_kat (s := s) k1 hs pair_at rs
  refine kat_kind (T := .type "str") KT (by rw [kl, hl4]; decide) (fun v hv => by obtain ⟨x, t, rfl⟩ := kf v hv; exact Looks.of_pure rfl) rfl ?_
  rw [sz]
  refine kas_pure (lt := lt) (n := 4) (s := { s with heap := h' }) (fun i j C hi hj hij hC => ?_) _ G1 ⟨k2, fun h3 c sb hc hz => ?_⟩
  · obtain ⟨y, _, p⟩ := hpr i hi
    obtain ⟨y', _, p'⟩ := hpr j hj
    refine pair_lt (s := s) (tk := s.toks) (p.kp k1) (p'.kp k1) (hd i j hi hj hij) ?_
    rw [← hlt i j hi hj hij]
    exact hC
  · have kp : Kp s.heap h3 := ⟨fun a o q => sb.extBut a o (fun x => absurd (Heap.lt_size q) (Nat.not_lt.mpr (x ▸ hD))) (k1 a o q), hz⟩
    have lt4 : ∀ z ∈ (evalK lt (kas_sort 4)).toList, z < xs.length := fun z hz => by rw [hl4]; exact G2.lt z hz
    have key := srt4 (dv := fun z => xs.getD z PyData.none) (gs := fun z => match xs.getD z PyData.none with | .tuple [_, .str y] => y | _ => ⟨#[]⟩) (fun z hz => by obtain ⟨y, e, _⟩ := hpr z hz; simp only [e]) hlt G2
    rw [range_getD hl4] at key
    rw [← key] at hQ
    exact hQ.kpd I (tk := s.toks) kp (Rd.list ⟨_, hc, rfl, _, rfl⟩ (fun x => absurd (I.mt _ x) (Nat.not_lt.mpr hD)) (rda_pick rs kp lt4)).vr
end
theorem re_attrs : PlainAttrs "re.Pattern" :=
  ⟨⟨"object.__getattribute__", by rw [typeLookup_type, builtinLookup_eq_fast]; kernel_rfl, by decide +kernel⟩, by rw [typeLookup_type, builtinLookup_eq_fast]; kernel_rfl⟩
theorem re_slot : Slot "re.Pattern" "search" "re.Pattern.search" :=
  .of (owner := "re.Pattern") (n := "search") (by rw [typeLookup_type, builtinLookup_eq_fast]; kernel_rfl) (by decide +kernel) (by decide +kernel) (by decide +kernel)
    (by first | exact .inl (by decide +kernel) | exact .inr (by decide +kernel)) (by rw [isSubtype_type]; kernel_rfl)
theorem re_type : typeOf (.builtin "re.Pattern.search") = pure (.type "method_descriptor") := by show builtinType _ = _; rw [builtinType_eq_fast]; kernel_rfl
theorem re_entry : entryFor table "re.Pattern.search" = some Builtin.«re.Pattern.search» := entryFor_of_tree (by kernel_rfl)
theorem re_args (a b : Value) : argsOk "re.Pattern.search" ⟨[a, b], []⟩ := by
  unfold argsOk; kernel_rfl
theorem okT_cases {P : Str → Prop} (h : ∀ x ∈ hTexts, P x) {x : Str} (hx : okT x = true) : P x := h x (by unfold okT at hx; exact List.contains_iff_mem.mp hx)
theorem all20 {P : Str → Prop} (h1 : P (Str.ofString "a")) (h2 : P (Str.ofString "b")) (h3 : P (Str.ofString "c")) (h4 : P (Str.ofString "d")) (h5 : P (Str.ofString "e")) (h6 : P (Str.ofString "A")) (h7 : P (Str.ofString "B")) (h8 : P (Str.ofString "C")) (h9 : P (Str.ofString "D")) (h10 : P (Str.ofString "E"))
    (h11 : P (Str.ofString "0")) (h12 : P (Str.ofString "1")) (h13 : P (Str.ofString "aa")) (h14 : P (Str.ofString "bb")) (h15 : P (Str.ofString "cc")) (h16 : P (Str.ofString "dd")) (h17 : P (Str.ofString "AA")) (h18 : P (Str.ofString "BB")) (h19 : P (Str.ofString "CC")) (h20 : P (Str.ofString "DD")) : ∀ x ∈ hTexts, P x := by
  intro x hx
  unfold hTexts at hx
  simp only [List.map_cons, List.map_nil, List.mem_cons, List.not_mem_nil, or_false] at hx
  rcases hx with rfl | rfl | rfl | rfl | rfl | rfl | rfl | rfl | rfl | rfl | rfl | rfl | rfl | rfl | rfl | rfl | rfl | rfl | rfl | rfl <;> assumption
theorem search55 (w : World) {x : Str} (hx : okT x = true) (t : Tok) : peek (KF w) ⟨PG, w.params⟩ (Builtin.«re.Pattern.search» ⟨[.ref 55, .str x t], []⟩) = some (.done (.ret .none)) :=
  okT_cases (P := fun x => peek (KF w) ⟨PG, w.params⟩ (Builtin.«re.Pattern.search» ⟨[.ref 55, .str x t], []⟩) = some (.done (.ret .none))) (all20 (by kernel_rfl!) (by kernel_rfl!) (by kernel_rfl!) (by kernel_rfl!) (by kernel_rfl!) (by kernel_rfl!) (by kernel_rfl!) (by kernel_rfl!) (by kernel_rfl!) (by kernel_rfl!) (by kernel_rfl!) (by kernel_rfl!) (by kernel_rfl!) (by kernel_rfl!) (by kernel_rfl!) (by kernel_rfl!) (by kernel_rfl!) (by kernel_rfl!) (by kernel_rfl!) (by kernel_rfl!)) hx
theorem search60 (w : World) {x : Str} (hx : okT x = true) (t : Tok) : peek (KF w) ⟨PG, w.params⟩ (Builtin.«re.Pattern.search» ⟨[.ref 60, .str x t], []⟩) = some (.done (.ret .none)) :=
  okT_cases (P := fun x => peek (KF w) ⟨PG, w.params⟩ (Builtin.«re.Pattern.search» ⟨[.ref 60, .str x t], []⟩) = some (.done (.ret .none))) (all20 (by kernel_rfl!) (by kernel_rfl!) (by kernel_rfl!) (by kernel_rfl!) (by kernel_rfl!) (by kernel_rfl!) (by kernel_rfl!) (by kernel_rfl!) (by kernel_rfl!) (by kernel_rfl!) (by kernel_rfl!) (by kernel_rfl!) (by kernel_rfl!) (by kernel_rfl!) (by kernel_rfl!) (by kernel_rfl!) (by kernel_rfl!) (by kernel_rfl!) (by kernel_rfl!) (by kernel_rfl!)) hx
theorem re_cls55 (w : World) : typeIn (KF w) (.ref 55) = some (.type "re.Pattern") := by kernel_rfl!
theorem re_cls60 (w : World) : typeIn (KF w) (.ref 60) = some (.type "re.Pattern") := by kernel_rfl!
theorem re_dict55 (w : World) : ((KF w).lookup 55).map (·.dict) = some none := by kernel_rfl!
theorem re_dict60 (w : World) : ((KF w).lookup 60).map (·.dict) = some none := by kernel_rfl!

section
variable {w : World} {A : Around} {s : Shared} {X : Value → Shared → Prop}
/-- the search of one of the two expressions in one of the texts: none -/
theorem search_snd {p : Addr} {x : Str} {t : Tok} {Q : Value → Shared → Prop} (hp : p = 55 ∨ p = 60) (hx : okT x = true) (K : (KF w).In s.heap) (h : Q .none s) : wpAny (model PG w) A (call (.builtin "re.Pattern.search") [.ref p, .str x t]) Q X s := by
  have go : ∀ p, typeIn (KF w) (.ref p) = some (.type "re.Pattern") → peek (KF w) ⟨PG, w.params⟩ (Builtin.«re.Pattern.search» ⟨[.ref p, .str x t], []⟩) = some (.done (.ret .none)) → wpAny (model PG w) A (call (.builtin "re.Pattern.search") [.ref p, .str x t]) Q X s := fun p h1 h2 => by
    have hT : s.TypeIs (.ref p) "re.Pattern" := by
      obtain ⟨o, ho, hc⟩ := Option.map_eq_some_iff.mp h1
      exact ⟨o, K _ _ ho, hc⟩
    refine wpAny_call_entry re_slot hT re_entry ?_ (re_args _ _)
    exact (Looks.of_peek (M := model PG w) K h2).here ⟨_, rfl, h⟩
  rcases hp with rfl | rfl
  · exact go 55 (re_cls55 w) (search55 w hx t)
  · exact go 60 (re_cls60 w) (search60 w hx t)
theorem search_meth {p : Addr} {pl : Sem Bool} {Q : Value × List Value → Shared → Prop} (hp : p = 55 ∨ p = 60) (K : (KF w).In s.heap) (h : Q (.builtin "re.Pattern.search", [.ref p]) s) : wpAny (model PG w) A (getMethod (.ref p) "search" pl) Q X s := by
  have go : ∀ p, typeIn (KF w) (.ref p) = some (.type "re.Pattern") → ((KF w).lookup p).map (·.dict) = some none → Q (.builtin "re.Pattern.search", [.ref p]) s → wpAny (model PG w) A (getMethod (.ref p) "search" pl) Q X s := fun p h1 h2 h => by
    obtain ⟨o, ho, hc⟩ := Option.map_eq_some_iff.mp h1
    obtain ⟨o', ho', hc'⟩ := Option.map_eq_some_iff.mp h2
    rw [ho] at ho'; cases ho'
    exact getMethod_builtin ⟨o, K _ _ ho, hc⟩ re_attrs re_slot re_type (fun a e => by cases e; exact ⟨o, K _ _ ho, hc'⟩) h
  rcases hp with rfl | rfl
  · exact go 55 (re_cls55 w) (re_dict55 w) h
  · exact go 60 (re_cls60 w) (re_dict60 w) h

theorem low_fit {x : Str} (hx : okT x = true) : Builtin.Str.tooLong (Txt.lower x).length = false := okT_cases (P := fun x => Builtin.Str.tooLong (Txt.lower x).length = false) (by decide +kernel) hx
theorem up_fit {x : Str} (hx : okT x = true) : Builtin.Str.tooLong (Txt.upper x).length = false := okT_cases (P := fun x => Builtin.Str.tooLong (Txt.upper x).length = false) (by decide +kernel) hx
theorem low_ok {x : Str} (hx : okT x = true) : okT (lowT x) = true := okT_cases (P := fun x => okT (lowT x) = true) (by decide +kernel) hx
end
noncomputable def clsOf : List Stmt → Str → List Stmt
  | [], _ => []
  | .ClassDef n _ _ b _ _ _ _ _ _ _ :: r, x => if n == x then b else clsOf r x
  | _ :: r, x => clsOf r x
noncomputable def defAll : List Stmt → Str → Option (List Str × List Stmt × Scope)
  | [], _ => none
  | .FunctionDef n a b _ _ _ sc _ _ _ :: r, x => if n == x then some ((a.posonlyargs ++ a.args ++ a.kwonlyargs ++ a.kwarg.toList).map (·.arg), b, sc) else defAll r x
  | _ :: r, x => defAll r x
/-- a method of the headers: its names, its body, its scope -/
noncomputable def mthD (m : String) : List Str × List Stmt × Scope := ((defAll (clsOf PG.main.body "Headers") m).getD ([], [], ⟨.module, [], false, false, []⟩))
structure MthOk (w : World) (a : Addr) (m : String) : Prop where
  body : (fdIn (KF w) a).map (·.body) = some (.stmts (mthD m).2.1)
  scope : (fdIn (KF w) a).map (·.scope) = some (mthD m).2.2
  clo : (fdIn (KF w) a).map (·.closure) = some []
  glo : (fdIn (KF w) a).map (fun fd => (fd.globals, fd.builtins)) = some (mainGlobals, builtinsNs)
  code : (fdIn (KF w) a).map (fun fd => codeIn (KF w) fd.code fd.qualname) = some true
  keep : keepIn (KF w) (.ref a) = true
  find : findIn (KF w) (.ref 189) m = some (some (.ref a))
  type : typeIn (KF w) (.ref a) = some (.type "function")
  kinds : ((mthD m).1.all fun p => ownKind (mthD m).2.2 p) = true
  nodup : (mthD m).1.Nodup
  sck : ((mthD m).2.2.kind == .function && !(mthD m).2.2.isCoroutine && !(mthD m).2.2.isGenerator && (mthD m).2.2.names.all fun x => x.2 != .free && kindIn (mthD m).2.2 x.1 == some x.2) = true
theorem MthOk.g {w : World} {a : Addr} {m : String} (FO : MthOk w a m) : FnG w a (mthD m) := by
  have h1 := FO.body
  rw [Option.map_eq_some_iff] at h1
  obtain ⟨fd, e, h1⟩ := h1
  have h2 := FO.scope
  have h3 := FO.clo
  have h4 := FO.glo
  have h5 := FO.code
  rw [e, Option.map_some, Option.some.injEq] at h2 h3 h4 h5
  rw [Prod.mk.injEq] at h4
  exact ⟨⟨fd, e, h1, h2, h3, h4.1, h4.2, h5⟩, FO.kinds, FO.nodup, FO.sck⟩
theorem bindsG_peek {w : World} {a : Addr} {args : Args} {binds : List (Str × Value)} (h : ∀ S, (fdIn (KF w) a).bind (fun fd => peek (KF w) S (bindArgs fd args)) = some binds) : BindsG w a args binds := fun fd e s K => by
  refine kp_binds K fun S => ?_
  have := h S
  rw [e, Option.bind_some] at this
  exact this
theorem m_cst (w : World) : MthOk w 90 "_convert_string_type" where
  body := by kernel_rfl!
  scope := by kernel_rfl!
  clo := by kernel_rfl!
  glo := by kernel_rfl!
  code := by kernel_rfl!
  keep := by kernel_rfl!
  find := by kernel_rfl!
  type := by kernel_rfl!
  kinds := by kernel_rfl!
  nodup := by decide +kernel
  sck := by kernel_rfl!
theorem b_cst (w : World) (a b : Value) (c : Bool) : BindsG w 90 ⟨[a, b], [("name", .bool c)]⟩ ((mthD "_convert_string_type").1.zip [a, b, .bool c]) := bindsG_peek fun S => by kernel_rfl!

inductive CstB : List Stmt → Prop
  | mk {a b c d e f g h i j k : Str} {p1 p2 p3 p4 p5 p6 p7 p8 p9 p10 p11 p12 p13 p14 p15 p16 p17 ap pp : Pos} {r o : List Stmt} {l : Stmt} : (a == "type" && b == "value" && c == "str" && d == "regex" && e == "name" && f == "_name_disallowed_re" && g == "_value_disallowed_re" && h == "regex" && i == "search" && j == "value" && k == "value" && ap.endLine == pp.line) = true →
    CstB [.If (.Compare (.Call (.Name a p1) [.Name b p2] [] p3) [.Is] [.Name c p4] p5) [.Assign [.Name d p6] (.IfExp (.Name e p7) (.Name f p8) (.Name g p9) p10) p11, .If (.Call (.Attribute (.Name h p12) i ap) [.Name j p13] [] pp) r [] p14, .Return (some (.Name k p15)) p16] o p17, l]
theorem isCst_ok : CstB (mthD "_convert_string_type").2.1 := by
  generalize hb : (mthD "_convert_string_type") = d
  conv at hb =>
    lhs
    reduce
  subst hb
  exact .mk (by decide +kernel)
theorem ns_type (w : World) : nsIn (KF w) mainGlobals (Str.ofString "type") = some none := by kernel_rfl!
theorem boot_type : bootBuiltins (Str.ofString "type") = some (.type "type") := by decide +kernel
theorem ns_str (w : World) : nsIn (KF w) mainGlobals (Str.ofString "str") = some none := by kernel_rfl!
theorem boot_str : bootBuiltins (Str.ofString "str") = some (.type "str") := by decide +kernel
theorem ns_nre (w : World) : nsIn (KF w) mainGlobals (Str.ofString "_name_disallowed_re") = some (some (.ref 55)) := by kernel_rfl!
theorem ns_vre (w : World) : nsIn (KF w) mainGlobals (Str.ofString "_value_disallowed_re") = some (some (.ref 60)) := by kernel_rfl!
noncomputable def scC : Scope := (mthD "_convert_string_type").2.2
theorem scC_type : globV scC "type" = true := by kernel_rfl!
theorem scC_str : globV scC "str" = true := by kernel_rfl!
theorem scC_n : globV scC "_name_disallowed_re" = true := by kernel_rfl!
theorem scC_v : globV scC "_value_disallowed_re" = true := by kernel_rfl!
theorem scC_re : ownKind scC "regex" = true := by kernel_rfl!

section
variable {w : World} {A : Around} {env : Env} {sc sc' : Scope} {F F' ML M M' T : List Addr} {Hs Hs' : HL} {vs vs' : Vars} {wd wd' : Wd} {s : Shared} {n : Nat} {h h' : Heap} {pv : PV} {X : Value → Shared → Prop}

theorem execs_one {st : Stmt} {rest : List Stmt} {Q : Flow → Shared → Prop} (h : wpAny (model PG w) A (exec st env) (fun f s' => match f with | .next => wpAny (model PG w) A (execs rest env) Q X s' | f => Q f s') X s) : wpAny (model PG w) A (execs (st :: rest) env) Q X s := by
  refine wpAny_execs_cons (wpAny_mono h (fun f s' z => ?_) fun _ _ z => z)
  cases f <;> exact z
theorem PostX.wrap {v : PV} {Q Q' : Flow → Shared → Prop} (hQ : PostX w A env sc F ML M Hs s n Q (.ret v) vs' wd') (h : ∀ x s', Q (.ret x) s' → Q' (.ret x) s') : PostX w A env sc F ML M Hs s n Q' (.ret v) vs' wd' := fun f Hs' M' ML' g tk' G' hm I' fr => by
  obtain ⟨x, rfl, r⟩ := fr
  exact h _ _ (hQ _ Hs' M' ML' g tk' G' hm I' ⟨x, rfl, r⟩)
/-- names alone -/
noncomputable def nameE : Ev := ⟨fun _ e vs wd v wd' => ∃ x p, e = .Name x p ∧ okName x = true ∧ vs.lookup x = some v ∧ wd' = wd, fun _ _ _ _ _ _ => False, fun _ _ _ _ _ _ _ => False⟩
theorem nameS : EvS w n nameE.ev := by
  rintro A env sc F ML M Hs vs wd s e pv wd' Q X I ⟨x, p, rfl, ho, h1, rfl⟩ hQ
  exact name_snd I ho h1 hQ
theorem name1 {sc : Scope} {x : Str} {p : Pos} (ho : okName x = true) (h : vs.lookup x = some pv) : EvsOf (fun e wd => nameE.ev sc e vs wd) [.Name x p] wd [pv] wd := .cons rfl ⟨_, _, rfl, ho, h, rfl⟩ .nil
theorem cst_rest {a : PV} {x : Str} {b : Bool} {q : Addr} {p1 p2 p3 p4 p5 ap pp : Pos} {r : List Stmt} {Q : Flow → Shared → Prop} (hq : q = 55 ∨ q = 60) (hx : okT x = true) (hline : (ap.endLine == pp.line) = true) (I : Si w A env scC F ML M Hs [("regex", .obj q), ("self", a), ("value", .dat (.str x)), ("name", .dat (.bool b))] wd s n)
    (hQ : PostX w A env scC F ML M Hs s n Q (.ret (.dat (.str x))) [("regex", .obj q), ("self", a), ("value", .dat (.str x)), ("name", .dat (.bool b))] wd) :
    wpAny (model PG w) A (execs [.If (.Call (.Attribute (.Name "regex" p1) "search" ap) [.Name "value" p2] [] pp) r [] p3, .Return (some (.Name "value" p4)) p5] env) Q X s := by
  refine execs_one (wpAny_If (wpAny_isTrue_value (meth_eval rfl hline (by show 1 < 30; decide) rfl (name_snd (pv := .obj q) I (by decide) rfl fun v Hs₁ M₁ h₁ tk₁ G₁ W₁ m₁ r₁ => ?_))))
  obtain rfl := r₁.shape
  refine search_meth hq W₁.inK ?_
  have I₁ := I.go G₁ W₁ m₁ tk₁
  refine call_snd (E := nameE) (xs := [.dat (.str x)]) (wd' := wd) (first := [.ref q]) (.inl fun _ e => nomatch e) nameS I₁ (name1 (by decide) rfl) fun vals Hs₂ M₂ h₂ tk₂ G₂ W₂ m₂ r₂ => ?_
  replace r₂ := r₂.one; obtain ⟨_, rfl, r₂⟩ := r₂
  obtain ⟨t, rfl⟩ := r₂.rd.str_inv
  have I₂ := I₁.go G₂ W₂ m₂ tk₂
  refine search_snd hq hx W₂.inK (wpAny_of_eq (a := false) rfl ?_)
  rw [if_neg (by decide)]
  refine wpAny_execs_nil ?_
  refine execs_one (wpAny_Return_some (name_snd (pv := .dat (.str x)) I₂ (by decide) rfl fun v Hs₃ M₃ h₃ tk₃ G₃ W₃ m₃ r₃ => ?_))
  have G := (G₁.trans' G₂).trans' G₃
  exact hQ _ Hs₃ M₃ ML h₃ tk₃ (G.weaken fun _ x => nomatch x) (fun _ x => .inl x) (I.go G W₃ m₃ tk₃) ⟨v, rfl, r₃⟩
theorem cst_body {a : PV} {x : Str} {b : Bool} {body : List Stmt} {Q : Flow → Shared → Prop} (hb : CstB body) (hx : okT x = true) (I : Si w A env scC F ML M Hs [("self", a), ("value", .dat (.str x)), ("name", .dat (.bool b))] wd s n)
    (hQ : PostX w A env scC F ML M Hs s n Q (.ret (.dat (.str x))) [("regex", .obj (if b then 55 else 60)), ("self", a), ("value", .dat (.str x)), ("name", .dat (.bool b))] wd) : wpAny (model PG w) A (execs body env) Q X s := by
  induction hb with | mk hb =>
  simp only [Bool.and_eq_true, beq_iff_eq] at hb
  obtain ⟨⟨⟨⟨⟨⟨⟨⟨⟨⟨⟨rfl, rfl⟩, rfl⟩, rfl⟩, rfl⟩, rfl⟩, rfl⟩, rfl⟩, rfl⟩, rfl⟩, rfl⟩, hline⟩ := hb
  refine execs_one (wpAny_If (wpAny_isTrue_Compare1 ?_ rfl))
  refine wpAny_Call_NameR (name_eval (by decide) (glob_bt I.wi I.ek scC_type (ns_type w) boot_type (by decide) ?_))
  refine call_snd (E := nameE) (xs := [.dat (.str x)]) (wd' := wd) (first := []) (.inl fun _ e => nomatch e) nameS I (name1 (by decide) rfl) fun vals Hs₁ M₁ h₁ tk₁ G₁ W₁ m₁ r₁ => ?_
  replace r₁ := r₁.one; obtain ⟨_, rfl, r₁⟩ := r₁
  obtain ⟨t, rfl⟩ := r₁.rd.str_inv
  have I₁ := I.go G₁ W₁ m₁ tk₁
  refine call_type_of (Tx := "str") rfl (by decide +kernel) ?_
  refine name_eval (by decide) (glob_bt I₁.wi I₁.ek scC_str (ns_str w) boot_str (by decide) ?_)
  refine wpAny_is_self rfl (wpAny_truthy_bool ?_)
  rw [if_pos rfl]
  -- the expression
  refine execs_one (wpAny_Assign_Name (wpAny_IfExp (wpAny_isTrue_value (name_snd (pv := .dat (.bool b)) (x := "name") I₁ (by decide) rfl fun v Hs₂ M₂ h₂ tk₂ G₂ W₂ m₂ r₂ => ?_))) rfl)
  obtain rfl := r₂.rd.bool_inv
  refine wpAny_truthy_bool ?_
  have I₂ := I₁.go G₂ W₂ m₂ tk₂
  have key : ∀ {q : Addr} {K : Unit → Shared → Prop}, q = (if b then 55 else 60) → (∀ h' tk, Go (Own env scC) Hs₂ F M₂ h₂ Hs₂ M₂ h' → Si w A env scC F ML M₂ Hs₂ [("regex", .obj q), ("self", a), ("value", .dat (.str x)), ("name", .dat (.bool b))] wd { s with heap := h', toks := tk } n → K () { s with heap := h', toks := tk }) →
      wpAny (model PG w) A (storeName env "regex" (.ref q)) K X { s with heap := h₂, toks := tk₂ } := fun {q K} hq hK =>
    store_snd I₂ scC_re (pv := .obj q) (.inl .obj) fun h' tk _ G I => hK h' tk G I
  have fin : ∀ {q : Addr} {h' : Heap} {tk : Nat}, q = (if b then 55 else 60) → Go (Own env scC) Hs₂ F M₂ h₂ Hs₂ M₂ h' → PostX w A env scC F ML M₂ Hs₂ { s with heap := h', toks := tk } n Q (.ret (.dat (.str x))) [("regex", .obj q), ("self", a), ("value", .dat (.str x)), ("name", .dat (.bool b))] wd := fun {q h' tk} hq G => by
    subst hq
    intro f Hs' M' ML' g tk' G' hm I' fr
    have G0 : Go (Own env scC ++ ML) Hs F M s.heap Hs₂ M₂ h' := ((G₁.trans' G₂).weaken fun _ x => nomatch x).trans' (G.weaken fun _ x => List.mem_append_left _ x)
    exact hQ f Hs' M' ML' g tk' (G0.trans' G') (fun z x => (hm z x).elim .inl fun h => .inr (Nat.le_trans G0.size h)) I' fr
  induction b with
  | true => 
    rw [if_pos rfl]
    exact name_eval (by decide) (glob_at I₂.wi I₂.ek scC_n (ns_nre w) (key rfl fun h' tk G I => cst_rest (.inl rfl) hx (by simpa using hline) I ((fin (tk := tk) rfl G).wrap fun _ _ h => h)))
  | false =>
    rw [if_neg (by decide)]
    exact name_eval (by decide) (glob_at I₂.wi I₂.ek scC_v (ns_vre w) (key rfl fun h' tk G I => cst_rest (.inr rfl) hx (by simpa using hline) I ((fin (tk := tk) rfl G).wrap fun _ _ h => h)))
theorem join_fit {y : Str} (hy : okT y = true) : JoinOk "; " [y] = true := okT_cases (P := fun y => JoinOk "; " [y] = true) (by decide +kernel) hy
/-- the receiver: an object of the headers' class -/
theorem self_at {a : PV} {v : Value} (r : Vr w.params s.heap M Hs ML v a) (h : (∃ d, a = .inst d) ∨ ∃ l, a = .self l) : ∃ x dx t k l, v = .ref x ∧ s.heap.get? x = some (instObj 189 dx) ∧ s.heap.get? dx = some (dictOf [⟨PyData.keyHash w.params "_headers", .str "_headers" t, l⟩] k) := by
  rcases h with ⟨d, rfl⟩ | ⟨l, rfl⟩
  · replace r := r.shape; obtain ⟨_, _, _, _, _, _, rfl, e1, e2, r⟩ := r
    exact ⟨_, _, _, _, _, rfl, Hid.of e1, Hid.of e2⟩
  · obtain ⟨_, _, _, _, rfl, e1, e2⟩ := r.shape
    exact ⟨_, _, _, _, _, rfl, Hid.of e1, Hid.of e2⟩
theorem low_leaf {x : Str} (hx : okT x = true) : MthS w n (.dat (.str x)) "lower" [] wd (.dat (.str (lowT x))) wd := by
  intro A env sc F ML M Hs vs wd₀ s ov pl K X I r hK
  obtain ⟨t, rfl⟩ := r.rd.str_inv
  refine GM.lower (hK (.builtin "str.lower") [.str x t] (.inl fun _ e => nomatch e) (fun {M' Hs' h' tk vals Q X} G I' r' hQ => ?_) _ rfl)
  cases r'
  exact KXw.lower rfl (low_fit hx) fun t' k => hQ _ _ _ h' k (Go.refl _ _ _ _ _) I'.wi I'.mt (Rd.str _ _).vr
theorem join_leaf {y : Str} (hy : okT y = true) : MthS w n (.dat (.str "; ")) "join" [.mut [.str y]] wd (.dat (.str y)) wd := by
  intro A env sc F ML M Hs vs wd₀ s ov pl K X I r hK
  obtain ⟨t, rfl⟩ := r.rd.str_inv
  refine GM.join (hK (.builtin "str.join") [.str "; " t] (.inl fun _ e => nomatch e) (fun {M' Hs' h' tk vals Q X} G I' r' hQ => ?_) _ rfl)
  obtain ⟨v, rfl, r1⟩ := r'.one
  rcases r1 with r1 | ⟨l, ws, z, xs, as, e1, rfl, hl, e3, e4⟩
  · cases r1
  · cases e1
    obtain ⟨v, ws', e5, rv, e6⟩ := RdA.cons_inv ⟨as, e4⟩
    cases e6.nil_inv
    obtain ⟨t', rfl⟩ := rv.str_inv
    cases (Array.toList_inj.mp e5 : ws = (strValues [(y, t')]).toArray)
    exact SC.join ⟨_, e3, rfl, _, rfl⟩ rfl (join_fit hy) fun t'' k => hQ _ _ _ h' k (Go.refl _ _ _ _ _) I'.wi I'.mt (Rd.str _ _).vr
theorem cst_leaf {a : PV} {x : Str} {b : Bool} (hx : okT x = true) (hm : notMut a = true) (hr : (∃ d, a = .inst d) ∨ ∃ l, a = .self l) : KwdS w (n + 1) a "_convert_string_type" (.dat (.str x)) b (.dat (.str x)) := by
  intro A env sc F ML M Hs vs wd₀ s ov pl K X I r hK
  obtain ⟨y, dx, t, k, l, rfl, h1, h2⟩ := self_at (s := s) r hr
  refine hd_meth I.wi.inK h1 h2 (m_cst w).find (m_cst w).type (by decide) (hK _ [.ref y] (.inr (m_cst w).keep) (fun {wd M' Hs' h' tk val Q X} G I' r' hQ => ?_) _ rfl)
  exact fn_callG (args := ⟨[.ref y, val], [("name", .bool b)]⟩) (vals := [.ref y, val, .bool b]) (pvs := [a, .dat (.str x), .dat (.bool b)]) (wd' := wd) (m_cst w).g (b_cst w _ _ _) (fun {A env F ML M s Q X} I hQ => cst_body isCst_ok hx I hQ) I' (.cons (I.vr G r) (.cons r' (.cons (Rd.bool _).vr .nil))) rfl (by show (notMut a && (true && (true && true))) = true; rw [hm]; rfl) rfl hQ
theorem leaf0 (w : World) (n : Nat) (hn : 1 ≤ n) : Leaf w lf0 n := by
  obtain ⟨n, rfl⟩ : ∃ k, n = k + 1 := ⟨n - 1, (Nat.sub_add_cancel hn).symm⟩
  refine ⟨(fun h => h.elim), fun {a m pvs wd wd' pv} h => ?_, (fun h => h.elim), fun {a m p b pv} h => ?_⟩
  · cases (h : Meth0 a m pvs wd pv wd') with
    | lower hm hx => cases eq_of_beq hm; exact low_leaf hx
    | join hm he hy => cases eq_of_beq hm; cases eq_of_beq he; exact join_leaf hy
  · cases (h : Kw0 a m p b pv) with
    | inst hm hx => cases eq_of_beq hm; exact cst_leaf hx rfl (.inl ⟨_, rfl⟩)
    | self hm hx => cases eq_of_beq hm; exact cst_leaf hx rfl (.inr ⟨_, rfl⟩)
end
section
variable {w : World} {A : Around} {env : Env} {sc sc' : Scope} {F F' ML M M' M₁ T : List Addr} {Hs Hs' Hs₁ : HL} {vs vs' : Vars} {wd wd' : Wd} {s : Shared} {n : Nat} {h h' h₁ : Heap} {pv : PV} {X : Value → Shared → Prop}

theorem freeze {k : Nat} {a l : Addr} {its : List (Str × Str)} (I : Si w A env sc F ML M Hs vs wd s n) (e1 : Hs[k]? = some (a, l)) (e2 : wd[k]? = some its) :
    Si w A env sc F [] (M.filter (· ≠ l)) [] [] [] s n ∧ Rv w.params (Hid s.heap (M.filter (· ≠ l))) [] (.ref a) (.inst (.list (its.map pairD))) ∧ Rv w.params (Hid s.heap M) Hs (.ref a) (.self l) := by
  have mem : (a, l) ∈ Hs := List.mem_of_getElem? e1
  have lM : l ∈ M := I.wi.hlM _ mem
  have lH : l ∈ Hs.map (·.2) := List.mem_map.mpr ⟨_, mem, rfl⟩
  have sub : ∀ x ∈ M.filter (· ≠ l), x ∈ M := fun x h => (List.mem_filter.mp h).1
  have ins : ∀ x ∈ M, x ∉ Hs.map (·.2) → x ∈ M.filter (· ≠ l) := fun x h n => List.mem_filter.mpr ⟨h, by simp only [ne_eq, decide_not, Bool.not_eq_eq_eq_not, Bool.not_true, decide_eq_false_iff_not]; intro e; exact n (by rw [e]; exact lH)⟩
  have hid : ∀ x o, (Hid s.heap M).get? x = some o → (Hid s.heap (M.filter (· ≠ l))).get? x = some o := fun x o e => Hid.get (Hid.of e) fun m => Hid.off e (sub x m)
  obtain ⟨⟨dx, t, c, d1, d2⟩, ⟨ws, z, as, d3, d4⟩⟩ := I.wi.hd k _ its e1 e2
  refine ⟨⟨I.ek, ⟨I.ai.handled, I.ai.frames, fun x hx => ins x (I.ai.fM x hx) (I.fh x hx), I.ai.depth, I.ai.units⟩, ⟨fun x o e => hid x o (I.wi.kin x o e), I.wi.tr.keeps hid, rfl, (fun i p it e => by simp at e), (fun _ x => no_mem x), .nil⟩, ⟨?_, ins _ I.ei.locM I.ei.locH, (fun x => no_mem x), fun x c hc => ?_, I.ei.cellOf, I.ei.inj, ⟨(fun _ x => no_mem x), (fun _ x => no_mem x), (fun _ x => no_mem x), (fun _ x => no_mem x)⟩, (fun _ x => no_mem x), ⟨(fun _ x => no_mem x), fun x hx => ins x (I.ei.in2.fr x hx) (I.fh x hx)⟩⟩, fun x hx => I.mt x (sub x hx), fun _ _ x => no_mem x⟩, ?_, .self d1 d2⟩
  · obtain ⟨m, hn, _⟩ := I.ei.ns
    exact ⟨m, hn, fun x pv e => by simp at e⟩
  · obtain ⟨c1, c2, c3, c4⟩ := I.ei.cells x c hc
    exact ⟨ins c c1 c2, (fun x => no_mem x), c3, c4⟩
  · have r : Rd s.heap (M.filter (· ≠ l)) (.ref l) (.list (its.map pairD)) := Rd.list ⟨_, d3, rfl, _, rfl⟩ (fun m => by simpa using (List.mem_filter.mp m).2) ⟨as, ReadsAll.keeps hid d4⟩
    obtain ⟨bs, r⟩ := r
    exact .inst (hid _ _ d1) (hid _ _ d2) r
theorem thaw {k : Nat} {a l : Addr} (I : Si w A env sc F ML M Hs vs wd s n) (e1 : Hs[k]? = some (a, l)) (G : Go [] [] F (M.filter (· ≠ l)) s.heap Hs₁ M₁ h₁) (m : Mt h₁ M₁) :
    Go [] Hs F M s.heap Hs (l :: M₁) h₁ ∧ WInv w (l :: M₁) Hs wd h₁ ∧ Mt h₁ (l :: M₁) ∧ (∀ o, s.heap.get? l = some o → h₁.get? l = some o) := by
  have mem : (a, l) ∈ Hs := List.mem_of_getElem? e1
  have lM : l ∈ M := I.wi.hlM _ mem
  have hF : ∀ p ∈ Hs, p.2 ∉ F := fun p hp x => I.fh _ x (List.mem_map.mpr ⟨p, hp, rfl⟩)
  have kp : ∀ p ∈ Hs, ∀ o, s.heap.get? p.2 = some o → h₁.get? p.2 = some o := fun p hp o e => G.keep _ _ (fun x => no_mem x) (fun x => no_mem x) (hF p hp) e
  have ms : ∀ x ∈ M, x ∈ l :: M₁ := fun x hx => by
    by_cases h : x = l
    · rw [h]; exact .head _
    · exact .tail _ (G.ms x (List.mem_filter.mpr ⟨hx, by simpa using h⟩))
  have G' : Go [] Hs F M s.heap Hs (l :: M₁) h₁ := by
    refine ⟨fun x o h1 _ h3 e => G.keep x o h1 (fun x => no_mem x) h3 e, fun x h1 h2 _ o e => G.fr x h1 h2 (fun x => no_mem x) o e, G.size, ms, fun x hx => ?_, [], by simp, (fun _ x => no_mem x)⟩
    rcases List.mem_cons.mp hx with rfl | hx
    · exact .inl lM
    · exact (G.fresh x hx).imp (fun h => (List.mem_filter.mp h).1) id
  refine ⟨G', I.wi.mv (G'.hid I.ei.in2 fun _ x => no_mem x) kp ms, fun x hx => ?_, kp _ mem⟩
  rcases List.mem_cons.mp hx with rfl | hx
  · exact Nat.lt_of_lt_of_le (I.mt _ lM) G.size
  · exact m x hx
end
/-! the evaluator's rules, one for each form -/
section
variable {L : Lf} {n : Nat} {sc sc' : Scope} {vs vs' vs₁ vs₂ : Vars} {wd wd' wd₁ wd₂ wd₃ : Wd} {v a b c : PV} {x : Str} {p q : Pos} {e e₁ e₂ e₃ : Expr} {E : Ev}

theorem r_const {k} {c : Const} (h : constV c = some v) : (evN L (n + 1)).ev sc (.Constant c k p) vs wd v wd := .const h
theorem r_name (h1 : (heldKind sc x && okName x) = true) (h2 : vs.lookup x = some v) : (evN L (n + 1)).ev sc (.Name x p) vs wd v wd := .name h1 h2
theorem r_nil {f : Expr → Wd → PV → Wd → Prop} : EvsOf f [] wd [] wd := .nil
theorem r_cons {f : Expr → Wd → PV → Wd → Prop} {r : List Expr} {ws : List PV} (h0 : notStar e = true) (h1 : f e wd v wd₁) (h2 : EvsOf f r wd₁ ws wd₂) : EvsOf f (e :: r) wd (v :: ws) wd₂ := .cons h0 h1 h2
theorem r_one {f : Expr → Wd → PV → Wd → Prop} (h0 : notStar e = true) (h1 : f e wd v wd₁) : EvsOf f [e] wd [v] wd₁ := .cons h0 h1 .nil
theorem r_two {f : Expr → Wd → PV → Wd → Prop} (h0 : notStar e₁ = true) (h0' : notStar e₂ = true) (h1 : f e₁ wd a wd₁) (h2 : f e₂ wd₁ b wd₂) : EvsOf f [e₁, e₂] wd [a, b] wd₂ := .cons h0 h1 (r_one h0' h2)
theorem r_list {es : List Expr} {xs : List PV} {ds : List PyData} (h1 : EvsOf (fun e wd => (evN L n).ev sc e vs wd) es wd xs wd₁) (hz : xs.length ≤ small) (h2 : dats xs = some ds) : (evN L (n + 1)).ev sc (.List es p) vs wd (.dat (.list ds)) wd₁ := .list h1 hz h2
theorem r_tuple {es : List Expr} {k : Nat} {xs : List PV} (h1 : EvsOf (fun e wd => (evN L n).ev sc e vs wd) es wd xs wd₁) (h2 : mkTup xs = some v) : (evN L (n + 1)).ev sc (.Tuple es k p) vs wd v wd₁ := .tuple h1 h2
theorem r_bin {op : Operator} (h1 : (evN L n).ev sc e₁ vs wd a wd₁) (h2 : (evN L n).ev sc e₂ vs wd₁ b wd₂) (h3 : binopV op a b = some v) : (evN L (n + 1)).ev sc (.BinOp e₁ op e₂ p) vs wd v wd₂ := .bin h1 h2 h3
theorem r_neg {i : Int} (h1 : (evN L n).ev sc e vs wd (.dat (.int i)) wd₁) : (evN L (n + 1)).ev sc (.UnaryOp .USub e p) vs wd (.dat (.int (-i))) wd₁ := .neg h1
theorem r_ifT (h1 : (evN L n).tst sc e vs wd true wd₁) (h2 : (evN L n).ev sc e₁ vs wd₁ v wd₂) : (evN L (n + 1)).ev sc (.IfExp e e₁ e₂ p) vs wd v wd₂ := .ifT h1 h2
theorem r_ifF (h1 : (evN L n).tst sc e vs wd false wd₁) (h2 : (evN L n).ev sc e₂ vs wd₁ v wd₂) : (evN L (n + 1)).ev sc (.IfExp e e₁ e₂ p) vs wd v wd₂ := .ifF h1 h2
theorem r_cmp {op : CmpOp} {r : Bool} (h1 : (evN L n).ev sc e₁ vs wd a wd₁) (h2 : (evN L n).ev sc e₂ vs wd₁ b wd₂) (hm : behindInMarks op e₂ = false) (h3 : cmpV op a b = some r) : (evN L (n + 1)).ev sc (.Compare e₁ [op] [e₂] p) vs wd (.dat (.bool r)) wd₂ := .cmp h1 h2 hm h3
theorem r_slice {lo hi st : Option Expr} {xs : List PyData} {i j k : Option Int} {wd₄ : Wd} (h1 : (evN L n).ev sc e vs wd (.dat (.list xs)) wd₁) (h2 : POpt (fun e wd => (evN L n).ev sc e vs wd) lo wd₁ i wd₂) (h3 : POpt (fun e wd => (evN L n).ev sc e vs wd) hi wd₂ j wd₃) (h4 : POpt (fun e wd => (evN L n).ev sc e vs wd) st wd₃ k wd₄)
    (hk : k ≠ some 0) (hz : xs.length ≤ small) : (evN L (n + 1)).ev sc (.Subscript e (.Slice lo hi st p) q) vs wd (.dat (.list (pickL xs i j k))) wd₄ := .slice h1 h2 h3 h4 hk hz
theorem r_sub (hs : notSlice e₂ = true) (h1 : (evN L n).ev sc e₁ vs wd a wd₁) (h2 : (evN L n).ev sc e₂ vs wd₁ b wd₂) (h3 : subV a b = some v) : (evN L (n + 1)).ev sc (.Subscript e₁ e₂ p) vs wd v wd₂ := .sub hs h1 h2 h3
theorem r_call {f : Str} {args : List Expr} {xs : List PV} (h0 : (globV sc f && okName f && decide (args.length < 30)) = true) (h1 : EvsOf (fun e wd => (evN L n).ev sc e vs wd) args wd xs wd₁) (h2 : CallF L (evN L n) f xs wd₁ v wd₂) : (evN L (n + 1)).ev sc (.Call (.Name f p) args [] q) vs wd v wd₂ := .call h0 h1 h2
theorem r_meth {m : Str} {ap pos : Pos} {args : List Expr} {xs : List PV} (h0 : (plainO e && ap.endLine == pos.line && decide (args.length < 30)) = true) (h1 : (evN L n).ev sc e vs wd a wd₁) (h2 : EvsOf (fun e wd => (evN L n).ev sc e vs wd) args wd₁ xs wd₂) (h3 : L.mv a m xs wd₂ v wd₃) :
    (evN L (n + 1)).ev sc (.Call (.Attribute e m ap) args [] pos) vs wd v wd₃ := .meth h0 h1 h2 h3
theorem r_kw {m kw : Str} {ap pos r r' : Pos} {k} {t : Bool} {w : PV} (h0 : (kw == "name" && plainO e && ap.endLine == pos.line) = true) (h1 : (evN L n).ev sc e vs wd a wd₁) (h2 : EvsOf (fun e wd => (evN L n).ev sc e vs wd) [e₁] wd₁ [w] wd₂) (h3 : L.kv a m w t v) :
    (evN L (n + 1)).ev sc (.Call (.Attribute e m ap) [e₁] [⟨some kw, .Constant (.bool t) k r, r'⟩] pos) vs wd v wd₂ := .kw h0 h1 h2 h3
theorem r_attr {m : Str} {d : PyData} (h0 : (m == "_headers" && plainO e) = true) (h1 : (evN L n).ev sc e vs wd (.inst d) wd₁) : (evN L (n + 1)).ev sc (.Attribute e m p) vs wd (.dat d) wd₁ := .attr h0 h1
theorem r_attrS {m : Str} {l : Addr} (h0 : (m == "_headers" && plainO e) = true) (h1 : (evN L n).ev sc e vs wd (.self l) wd₁) : (evN L (n + 1)).ev sc (.Attribute e m p) vs wd (.obj l) wd₁ := .attrS h0 h1
theorem r_lc {elt : Expr} {g : Comprehension} {gs : List Comprehension} {xs : List PyData} {r : List PyData × Wd} (h0 : plainScope sc sc' = true) (h1 : ItersOf (evN L n) sc vs g.iter wd xs wd₁) (h2 : CompOf (evN L n) sc' elt (g :: gs) xs (seenIn sc' vs) wd₁ r) :
    (evN L (n + 1)).ev sc (.ListComp elt (g :: gs) sc' p) vs wd (.dat (.list r.1)) r.2 := .lc h0 h1 h2
theorem r_dc {k : Expr} {g : Comprehension} {gs : List Comprehension} {xs : List PyData} {r : List (Str × PV) × Wd} (h0 : plainScope sc sc' = true) (h1 : ItersOf (evN L n) sc vs g.iter wd xs wd₁) (h2 : DctOf (evN L n) sc' k e (g :: gs) xs (seenIn sc' vs) wd₁ r) :
    (evN L (n + 1)).ev sc (.DictComp k e (g :: gs) sc' p) vs wd (.dct r.1) r.2 := .dc h0 h1 h2
theorem r_dict {ks : List (Option Expr)} {es : List Expr} {r : List (Str × PV)} (h1 : DispOf (fun e wd => (evN L n).ev sc e vs wd) ks es wd r wd₁) (h2 : ((r.map (·.1)).Nodup && decide (1 ≤ ks.length) && decide (ks.length ≤ 15)) = true) :
    (evN L (n + 1)).ev sc (.Dict ks es p) vs wd (.dct r) wd₁ := .dict h1 h2

-- tests
theorem r_tcmp {op : CmpOp} {r : Bool} (h1 : (evN L n).ev sc e₁ vs wd a wd₁) (h2 : (evN L n).ev sc e₂ vs wd₁ b wd₂) (hm : behindInMarks op e₂ = false) (h3 : cmpV op a b = some r) : (evN L (n + 1)).tst sc (.Compare e₁ [op] [e₂] p) vs wd r wd₂ := .cmp h1 h2 hm h3
theorem r_tbool {op : BoolOp} {es : List Expr} {r : Bool} (h : AllT (fun e wd => (evN L n).tst sc e vs wd) op es wd r wd₁) : (evN L (n + 1)).tst sc (.BoolOp op es p) vs wd r wd₁ := .bool h
theorem r_and_nil {f : Expr → Wd → Bool → Wd → Prop} : AllT f .And [] wd true wd := .nil
theorem r_or_nil {f : Expr → Wd → Bool → Wd → Prop} : AllT f .Or [] wd false wd := .nil
theorem r_and {f : Expr → Wd → Bool → Wd → Prop} {r s : Bool} {es : List Expr} (h1 : f e wd r wd) (h2 : r = true → AllT f .And es wd s wd) : AllT f .And (e :: es) wd (r && s) wd := by
  cases r with
  | true => exact .go h1 (h2 rfl)
  | false => exact .stop h1
theorem r_or {f : Expr → Wd → Bool → Wd → Prop} {r s : Bool} {es : List Expr} (h1 : f e wd r wd) (h2 : r = false → AllT f .Or es wd s wd) : AllT f .Or (e :: es) wd (r || s) wd := by
  cases r with
  | false => exact .go h1 (h2 rfl)
  | true => exact .stop h1

-- iteration
theorem i_range {k : Int} {f : Str} (h0 : (f == "range") = true) (hg : globV sc "range" = true) (h0' : notStar e = true) (h1 : (evN L n).ev sc e vs wd (.dat (.int k)) wd₁) (hk : (decide (0 ≤ k) && decide (k ≤ small)) = true) :
    ItersOf (evN L n) sc vs (.Call (.Name f p) [e] [] q) wd ((List.range k.toNat).map (fun (i : Nat) => PyData.int (i : Int))) wd₁ := .range h0 hg (r_one h0' h1) (of_decide_eq_true (and2 hk).1) (of_decide_eq_true (and2 hk).2)
theorem i_of {xs : List PyData} (h0 : notSet e = true) (h1 : (evN L n).ev sc e vs wd v wd₁) (h2 : itemsV v = some xs) (hz : xs.length ≤ small) : ItersOf (evN L n) sc vs e wd xs wd₁ := .plain h0 h1 h2 hz

-- statements
variable {st : Stmt} {r : List Stmt} {fl : Fl}
theorem x_nil : (evN L (n + 1)).exs sc [] vs wd .next vs wd := .nil
theorem x_next (h1 : ExStep L (evN L n) sc st vs wd .next vs₁ wd₁) (h2 : (evN L (n + 1)).exs sc r vs₁ wd₁ fl vs₂ wd₂) : (evN L (n + 1)).exs sc (st :: r) vs wd fl vs₂ wd₂ := .next h1 h2
theorem x_ret (h1 : ExStep L (evN L n) sc st vs wd (.ret v) vs₁ wd₁) : (evN L (n + 1)).exs sc (st :: r) vs wd (.ret v) vs₁ wd₁ := .ret h1
theorem s_name (h0 : plainVal e = true) (h1 : (evN L n).ev sc e vs wd v wd₁) (h2 : (ownKind sc x && notMut v) = true) : ExStep L (evN L n) sc (.Assign [.Name x p] e q) vs wd .next ((x, v) :: vs) wd₁ := .name h0 h1 (and2 h2).1 (and2 h2).2
theorem s_lc {elt : Expr} {gens : List Comprehension} {z : Pos} (h1 : (evN L (n + 1)).ev sc (.ListComp elt gens sc' z) vs wd v wd₁) (h2 : (ownKind sc x && notMut v) = true) : ExStep L (evN L n) sc (.Assign [.Name x p] (.ListComp elt gens sc' z) q) vs wd .next ((x, v) :: vs) wd₁ := .lc h1 (and2 h2).1 (and2 h2).2
theorem s_mut {z : Pos} (h2 : ownKind sc x = true) : ExStep L (evN L n) sc (.Assign [.Name x p] (.List [] z) q) vs wd .next ((x, .mut []) :: vs) wd := .mut h2
theorem s_tup {ts : List Expr} {k : Nat} {vs₁ : Vars} (h0 : (swapOk e && plainVal e) = true) (h1 : (evN L n).ev sc e vs wd v wd₁) (h2 : BindT sc (.Tuple ts k p) v vs vs₁) : ExStep L (evN L n) sc (.Assign [.Tuple ts k p] e q) vs wd .next vs₁ wd₁ := .tup (and2 h0).1 (and2 h0).2 h1 h2
theorem s_sub {k : Nat} {y z : Str} (h1 : (evN L n).ev sc e vs wd (.dat (.str y)) wd₁) (h2 : (evN L n).ev sc e₁ vs wd₁ (.hdr k) wd₂) (h3 : (evN L n).ev sc e₂ vs wd₂ (.dat (.str z)) wd₃) (h4 : L.si k z y wd₃ wd') : ExStep L (evN L n) sc (.Assign [.Subscript e₁ e₂ p] e q) vs wd .next vs wd' := .sub h1 h2 h3 h4
theorem s_ext {m : Str} {px ap pos : Pos} {xs ys : List PyData} (h0 : (m == "extend" && heldKind sc x && okName x && ap.endLine == pos.line && (vs.all fun p => p.1 == x || notMut p.2)) = true) (h1 : vs.lookup x = some (.mut xs)) (h2 : EvsOf (fun e wd => (evN L n).ev sc e vs wd) [e] wd [.dat (.list ys)] wd₁) (hz : (decide (xs.length ≤ small) && decide (ys.length ≤ small)) = true) :
    ExStep L (evN L n) sc (.Expr (.Call (.Attribute (.Name x px) m ap) [e] [] pos) q) vs wd .next ((x, .mut (xs ++ ys)) :: vs) wd₁ := .ext h0 h1 h2 (of_decide_eq_true (and2 hz).1) (of_decide_eq_true (and2 hz).2)
theorem s_ifT {b o : List Stmt} (h1 : (evN L n).tst sc e vs wd true wd₁) (h2 : (evN L n).exs sc b vs wd₁ fl vs₂ wd₂) : ExStep L (evN L n) sc (.If e b o p) vs wd fl vs₂ wd₂ := .ifT h1 h2
theorem s_ifF {b o : List Stmt} (h1 : (evN L n).tst sc e vs wd false wd₁) (h2 : (evN L n).exs sc o vs wd₁ fl vs₂ wd₂) : ExStep L (evN L n) sc (.If e b o p) vs wd fl vs₂ wd₂ := .ifF h1 h2
theorem s_for {t : Expr} {b : List Stmt} {xs : List PyData} (h1 : ItersOf (evN L n) sc vs e wd xs wd₁) (h2 : ForL (evN L n) sc t b xs vs wd₁ fl vs₂ wd₂) : ExStep L (evN L n) sc (.For t e b [] p) vs wd fl vs₂ wd₂ := .loop h1 h2
theorem s_ret (h1 : (evN L n).ev sc e vs wd v wd₁) : ExStep L (evN L n) sc (.Return (some e) p) vs wd (.ret v) vs wd₁ := .ret h1
theorem t_nil {f : Expr → Wd → Bool → Wd → Prop} : Tests f [] wd true wd := .nil
theorem t_one {f : Expr → Wd → Bool → Wd → Prop} {k : Bool} (h : f e wd k wd) : Tests f [e] wd k wd := by
  cases k with
  | true => exact .yes h .nil
  | false => exact .no h
theorem c_clause {α : Type} {enc : α → PyData} {f : α → Bool} {g : α → PyData} {t elt : Expr} {ifs : List Expr} {ys : List α} : ∀ {acc : List PyData} (_ : ∀ y ∈ ys, ∃ vs', BindF sc t (.dat (enc y)) vs vs' ∧ Tests (fun e wd => (evN L n).tst sc e vs' wd) ifs wd (f y) wd ∧ (f y = true → (evN L n).ev sc elt vs' wd (.dat (g y)) wd)) (_ : acc.length + ys.length ≤ small),
    Clause (evN L n) sc t ifs (ElemK (evN L n) sc elt) vs (ys.map enc) (acc, wd) (acc ++ (ys.filter f).map g, wd) := by
  induction ys with
  | nil => intro acc _ _; rw [List.filter_nil, List.map_nil, List.map_nil, List.append_nil]; exact .nil
  | cons y r ih =>
    intro acc h hz
    obtain ⟨vs', h1, h2, h3⟩ := h y (.head _)
    rw [List.length_cons] at hz
    rw [List.map_cons]
    cases q : f y with
    | false =>
      rw [List.filter_cons_of_neg (by rw [q]; decide)]
      rw [q] at h2
      exact .skip h1 h2 (ih (fun z hz => h z (.tail _ hz)) (Nat.le_of_succ_le hz))
    | true =>
      rw [List.filter_cons_of_pos q, List.map_cons, List.append_cons]
      rw [q] at h2
      refine .take h1 h2 (.mk (h3 q) (Nat.le_trans (Nat.le_add_right _ _) hz)) (ih (fun z hz => h z (.tail _ hz)) ?_)
      rw [List.length_append, List.length_singleton, Nat.add_assoc, Nat.add_comm 1]
      exact hz
/-- a comprehension of one clause -/
theorem c_one {α : Type} {enc : α → PyData} {f : α → Bool} {g : α → PyData} {t it elt : Expr} {ifs : List Expr} {ys : List α} (h : ∀ y ∈ ys, ∃ vs', BindF sc t (.dat (enc y)) vs vs' ∧ Tests (fun e wd => (evN L n).tst sc e vs' wd) ifs wd (f y) wd ∧ (f y = true → (evN L n).ev sc elt vs' wd (.dat (g y)) wd)) (hz : ys.length ≤ small) :
    CompOf (evN L n) sc elt [⟨t, it, ifs, 0⟩] (ys.map enc) vs wd ((ys.filter f).map g, wd) := by
  have := c_clause h (acc := []) (by rw [List.length_nil, Nat.zero_add]; exact hz)
  exact .one this
end
theorem lower_ev {x : Str} {wd : Wd} (hx : okT x = true) : lf0.mv (.dat (.str x)) ⟨#[108, 111, 119, 101, 114]⟩ [] wd (.dat (.str (lowT x))) wd := Meth0.lower rfl hx
theorem cst_ev {a : PV} {x : Str} {b : Bool} (h : (∃ d, a = .inst d) ∨ ∃ l, a = .self l) (hx : okT x = true) : lf0.kv a ⟨#[95, 99, 111, 110, 118, 101, 114, 116, 95, 115, 116, 114, 105, 110, 103, 95, 116, 121, 112, 101]⟩ (.dat (.str x)) b (.dat (.str x)) := by
  rcases h with ⟨d, rfl⟩ | ⟨d, rfl⟩
  · exact Kw0.inst rfl hx
  · exact Kw0.self rfl hx
theorem shaped_ok {x : Str} (hx : okT x = true) : SeqAt.shaped (.str x) = true := okT_cases (P := fun x => SeqAt.shaped (.str x) = true) (by decide +kernel) hx
theorem cmp_str {a b : Str} (ha : okT a = true) (hb : okT b = true) : cmpV .Eq (.dat (.str a)) (.dat (.str b)) = some (a == b) := by
  show (if _ then some (PyData.eqv (.str a) (.str b)) else none) = _
  rw [if_pos (by rw [shaped_ok ha, shaped_ok hb]; rfl)]
  simp [PyData.eqv]
theorem cmp_strN {a b : Str} (ha : okT a = true) (hb : okT b = true) : cmpV .NotEq (.dat (.str a)) (.dat (.str b)) = some (a != b) := by
  show Option.map _ (if _ then some (PyData.eqv (.str a) (.str b)) else none) = _
  rw [if_pos (by rw [shaped_ok ha, shaped_ok hb]; rfl)]
  simp [PyData.eqv, bne]
theorem get_loop {its : List (Str × Str)} {y : Str} {E : Ev} {sc : Scope} {t : Expr} {b : List Stmt} {P : Vars → Prop} (hf : ∀ p ∈ its, ∀ vs, P vs → ∃ vs₁ vs', P vs' ∧ BindT sc t (.dat (pairD p)) vs vs₁ ∧ E.exs sc b vs₁ [] (if lowT p.1 == y then .ret (.dat (.str p.2)) else .next) vs' []) :
    ∀ {vs}, P vs → ∃ vs', P vs' ∧ ForL E sc t b (its.map pairD) vs [] (match its.find? (fun p => lowT p.1 == y) with
      | some p => .ret (.dat (.str p.2))
      | none => .next) vs' [] := by
  induction its with
  | nil => exact fun {vs} h => ⟨vs, h, .nil⟩
  | cons p r ih =>
    intro vs hP
    obtain ⟨vs₁, vs', h1, h2, h3⟩ := hf p (.head _) vs hP
    rw [List.map_cons, List.find?_cons]
    cases q : lowT p.1 == y with
    | true =>
      rw [q] at h3
      exact ⟨vs', h1, .ret h2 h3⟩
    | false =>
      rw [q] at h3
      obtain ⟨vs₂, h4, h5⟩ := ih (fun q hq => hf q (.tail _ hq)) h1
      exact ⟨vs₂, h4, .next h2 h3 h5⟩
theorem get_shape {L : Lf} {n : Nat} {sc : Scope} {st : Stmt} {t e d : Expr} {b : List Stmt} {p q : Pos} {vs vs₁ : Vars} {its : List (Str × Str)} {x : Str} {P : Vars → Prop} (hi : okI its = true) (h1 : ExStep L (evN L n) sc st vs [] .next vs₁ []) (h2 : ItersOf (evN L n) sc vs₁ e [] (its.map pairD) []) (hP : P vs₁)
    (h3 : ∀ p ∈ its, okT p.1 = true → ∀ vs, P vs → ∃ vs₁ vs', P vs' ∧ BindT sc t (.dat (pairD p)) vs vs₁ ∧ (evN L n).exs sc b vs₁ [] (if lowT p.1 == lowT x then .ret (.dat (.str p.2)) else .next) vs' [])
    (h4 : ∀ vs, P vs → (evN L n).ev sc d vs [] (.dat .none) []) : ∃ vs' fl, (evN L (n + 1)).exs sc [st, .For t e b [] p, .Return (some d) q] vs [] fl vs' [] ∧ retV fl = .dat (hGet its x) := by
  unfold okI at hi
  have hi := (and2 hi).2
  rw [List.all_eq_true] at hi
  obtain ⟨vs', hP', hl⟩ := get_loop (y := lowT x) (fun p hp vs h => h3 p hp (and2 (hi p hp)).1 vs h) hP
  unfold hGet
  cases hf : its.find? (fun p => lowT p.1 == lowT x) with
  | some p =>
    rw [hf] at hl
    exact ⟨vs', _, x_next h1 (x_ret (s_for h2 hl)), rfl⟩
  | none =>
    rw [hf] at hl
    exact ⟨vs', _, x_next h1 (x_next (s_for h2 hl) (x_ret (s_ret (h4 _ hP')))), rfl⟩
theorem get_ev {its : List (Str × Str)} {x : Str} (hx : okT x = true) (hi : okI its = true) : ∃ vs' fl, (evN lf0 8).exs (mthD "get").2.2 (mthD "get").2.1 ((mthD "get").1.zip [.inst (.list (its.map pairD)), .dat (.str x), .dat .none]) [] fl vs' [] ∧ retV fl = .dat (hGet its x) := by
  generalize hb : (mthD "get") = d
  conv at hb => 
    lhs
    reduce
  subst hb
  have hz : its.length ≤ 60 := by unfold okI at hi; rw [Bool.and_eq_true, decide_eq_true_eq] at hi; exact hi.1
  have sm : small = 1000 := rfl
  refine get_shape hi (P := fun vs => vs.lookup ⟨#[110, 97, 109, 101]⟩ = some (.dat (.str (lowT x))) ∧ vs.lookup ⟨#[100, 101, 102, 97, 117, 108, 116]⟩ = some (.dat .none)) (s_name rfl (r_kw rfl (r_name rfl rfl) (r_one rfl (r_meth rfl (r_name rfl rfl) r_nil (lower_ev hx))) (cst_ev (.inl ⟨_, rfl⟩) (low_ok hx))) rfl) (i_of rfl (r_attr rfl (r_name rfl rfl)) rfl (by rw [List.length_map]; omega)) ⟨rfl, rfl⟩ (fun p hp hk vs h => ?_) fun vs h => r_name rfl h.2
  refine ⟨(⟨#[118]⟩, .dat (.str p.2)) :: (⟨#[107]⟩, .dat (.str p.1)) :: vs, (⟨#[118]⟩, .dat (.str p.2)) :: (⟨#[107]⟩, .dat (.str p.1)) :: vs, ⟨h.1, h.2⟩, .pair rfl rfl, ?_⟩
  cases hq : lowT p.1 == lowT x with
  | true =>
    rw [if_pos rfl]
    exact x_ret (s_ifT (r_tcmp (r_meth rfl (r_name rfl rfl) r_nil (lower_ev hk)) (r_name rfl h.1) rfl (by rw [cmp_str (low_ok hk) (low_ok hx), hq])) (x_ret (s_ret (r_name rfl rfl))))
  | false =>
    rw [if_neg (by decide)]
    exact x_next (s_ifF (r_tcmp (r_meth rfl (r_name rfl rfl) r_nil (lower_ev hk)) (r_name rfl h.1) rfl (by rw [cmp_str (low_ok hk) (low_ok hx), hq])) x_nil) x_nil


section
variable {w : World} {A : Around} {env : Env} {sc sc' : Scope} {F F' ML M M' T : List Addr} {Hs Hs' : HL} {vs vs' vs₁ : Vars} {wd wd' wd₁ wd₂ : Wd} {s : Shared} {n m : Nat} {h h' : Heap} {pv : PV} {X : Value → Shared → Prop}

/-- a value that was not there -/
noncomputable def NewV (n : Nat) (v : Value) : Prop := ∃ D, v = .ref D ∧ n ≤ D
theorem newV_mono : ∀ i j v, i ≤ j → NewV j v → NewV i v := fun _ _ _ h ⟨D, e, k⟩ => ⟨D, e, Nat.le_trans h k⟩
noncomputable abbrev PostXR (w : World) (A : Around) (env : Env) (sc : Scope) (F ML M : List Addr) (Hs : HL) (s : Shared) (n : Nat) (Q : Flow → Shared → Prop) (fl : Fl) (vs' : Vars) (wd' : Wd) : Prop :=
  ∀ f Hs' M' ML' h' tk, Go (Own env sc ++ ML) Hs F M s.heap Hs' M' h' → (∀ a ∈ ML', a ∈ ML ∨ s.heap.objs.size ≤ a) → Si w A env sc F ML' M' Hs' vs' wd' { s with heap := h', toks := tk } n → FlR w h' M' Hs' ML' f fl → (∀ x, f = .ret x → NewV s.heap.objs.size x) → Q f { s with heap := h', toks := tk }
theorem ret_lc {elt : Expr} {g : Comprehension} {gs : List Comprehension} {p q : Pos} {xs : List PyData} {r : List PyData × Wd} {Q : Flow → Shared → Prop} (hp : plainScope sc sc' = true) (h2 : ItersOf (evN lf0 m) sc vs g.iter wd xs wd₁) (h3 : CompOf (evN lf0 m) sc' elt (g :: gs) xs (seenIn sc' vs) wd₁ r)
    (I : Si w A env sc F ML M Hs vs wd s (m + 1 + 1)) (hQ : PostXR w A env sc F ML M Hs s (m + 1 + 1) Q (.ret (.dat (.list r.1))) vs r.2) : wpAny (model PG w) A (execs [.Return (some (.ListComp elt (g :: gs) sc' p)) q] env) Q X s := by
  obtain ⟨hE, hT, hX⟩ := evN_snd (leaf0 w) m
  refine execs_one (wpAny_Return_some (listcomp_fresh hE hT (I.less (Nat.le_succ _)) hp h2 h3 fun D Hs' M' h' tk hD G W m' r => ?_))
  exact hQ _ Hs' M' ML h' tk (G.weaken fun _ x => nomatch x) (fun _ x => .inl x) (I.go G W m' tk) ⟨_, rfl, .inl r⟩ fun x e => by cases e; exact ⟨D, rfl, hD⟩
theorem then_lc {st : Stmt} {elt : Expr} {g : Comprehension} {gs : List Comprehension} {p q : Pos} {xs : List PyData} {r : List PyData × Wd} {Q : Flow → Shared → Prop} (h1 : ExStep lf0 (evN lf0 m) sc st vs wd .next vs₁ wd₁) (hp : plainScope sc sc' = true) (h2 : ItersOf (evN lf0 m) sc vs₁ g.iter wd₁ xs wd₂) (h3 : CompOf (evN lf0 m) sc' elt (g :: gs) xs (seenIn sc' vs₁) wd₂ r)
    (I : Si w A env sc F ML M Hs vs wd s (m + 1 + 1)) (hQ : PostXR w A env sc F ML M Hs s (m + 1 + 1) Q (.ret (.dat (.list r.1))) vs₁ r.2) : wpAny (model PG w) A (execs [st, .Return (some (.ListComp elt (g :: gs) sc' p)) q] env) Q X s := by
  obtain ⟨hE, hT, hX⟩ := evN_snd (leaf0 w) m
  refine execs_one (exStep_snd (leaf0 w (m + 1) (Nat.le_add_left 1 m)) hE hT hX I h1 fun f Hs₁ M₁ ML₁ h₁ tk₁ G₁ hm₁ I₁ fr₁ => ?_)
  have : f = .next := fr₁
  subst this
  refine ret_lc hp h2 h3 I₁ fun f Hs₂ M₂ ML₂ h₂ tk₂ G₂ hm₂ I₂ fr₂ hn => ?_
  refine hQ f Hs₂ M₂ ML₂ h₂ tk₂ (G₁.trans G₂ fun a x => ?_) (fun a x => (hm₂ a x).elim (hm₁ a) fun h => .inr (Nat.le_trans G₁.size h)) I₂ fr₂ fun x e => newV_mono _ _ _ G₁.size (hn x e)
  rcases List.mem_append.mp x with x | x
  · exact .inl (List.mem_append_left _ x)
  · exact (hm₁ a x).imp (fun x => List.mem_append_right _ x) id
theorem ret_slice {v : Expr} {lo hi st : Option Expr} {p q z : Pos} {xs : List PyData} {a b c : Option Int} {wd₃ wd₄ : Wd} {Q : Flow → Shared → Prop} (e1 : (evN lf0 m).ev sc v vs wd (.dat (.list xs)) wd₁) (e2 : POpt (fun e wd => (evN lf0 m).ev sc e vs wd) lo wd₁ a wd₂) (e3 : POpt (fun e wd => (evN lf0 m).ev sc e vs wd) hi wd₂ b wd₃) (e4 : POpt (fun e wd => (evN lf0 m).ev sc e vs wd) st wd₃ c wd₄)
    (h0 : c ≠ some 0) (hz : xs.length ≤ small) (I : Si w A env sc F ML M Hs vs wd s (m + 1 + 1)) (hQ : PostXR w A env sc F ML M Hs s (m + 1 + 1) Q (.ret (.dat (.list (pickL xs a b c)))) vs wd₄) : wpAny (model PG w) A (execs [.Return (some (.Subscript v (.Slice lo hi st p) q)) z] env) Q X s := by
  obtain ⟨hE, hT, hX⟩ := evN_snd (leaf0 w) m
  have I₀ := I.less (Nat.le_succ _)
  refine execs_one (wpAny_Return_some (Subscript_ (hE I₀ e1 fun v1 Hs₁ M₁ h₁ tk₁ G₁ W₁ m₁ r₁ => ?_)))
  have I₁ := I₀.go G₁ W₁ m₁ tk₁
  refine wpAny_Slice (part_snd hE I₁ e2 fun v2 Hs₂ M₂ h₂ tk₂ G₂ W₂ m₂ r₂ => ?_)
  have I₂ := I₁.go G₂ W₂ m₂ tk₂
  refine part_snd hE I₂ e3 fun v3 Hs₃ M₃ h₃ tk₃ G₃ W₃ m₃ r₃ => ?_
  have I₃ := I₂.go G₃ W₃ m₃ tk₃
  refine part_snd hE I₃ e4 fun v4 Hs₄ M₄ h₄ tk₄ G₄ W₄ m₄ r₄ => ?_
  have I₄ := I₃.go G₄ W₄ m₄ tk₄
  have G := ((G₁.trans' G₂).trans' G₃).trans' G₄
  refine slice_new (s := { s with heap := h₄, toks := tk₄ }) m₄ hz h0 (I₃.vr G₄ (I₂.vr G₃ (I₁.vr G₂ r₁))).rd r₂ r₃ r₄ fun D h₅ tk₅ hD k₅ r₅ => ?_
  have G5 := G.trans' (Go.kp k₅ _ _ _ _)
  exact hQ _ Hs₄ M₄ ML h₅ tk₅ (G5.weaken fun _ x => nomatch x) (fun _ x => .inl x) (I.go G5 (W₄.kp k₅) (m₄.kp k₅) tk₅) ⟨_, rfl, r₅.vr⟩ fun x e => by cases e; exact ⟨D, rfl, Nat.le_trans G.size hD⟩
end
theorem m_get (w : World) : MthOk w 136 "get" where
  body := by kernel_rfl!
  scope := by kernel_rfl!
  clo := by kernel_rfl!
  glo := by kernel_rfl!
  code := by kernel_rfl!
  keep := by kernel_rfl!
  find := by kernel_rfl!
  type := by kernel_rfl!
  kinds := by kernel_rfl!
  nodup := by decide +kernel
  sck := by kernel_rfl!
theorem m_all (w : World) : MthOk w 128 "get_all" where
  body := by kernel_rfl!
  scope := by kernel_rfl!
  clo := by kernel_rfl!
  glo := by kernel_rfl!
  code := by kernel_rfl!
  keep := by kernel_rfl!
  find := by kernel_rfl!
  type := by kernel_rfl!
  kinds := by kernel_rfl!
  nodup := by decide +kernel
  sck := by kernel_rfl!
theorem m_items (w : World) : MthOk w 153 "items" where
  body := by kernel_rfl!
  scope := by kernel_rfl!
  clo := by kernel_rfl!
  glo := by kernel_rfl!
  code := by kernel_rfl!
  keep := by kernel_rfl!
  find := by kernel_rfl!
  type := by kernel_rfl!
  kinds := by kernel_rfl!
  nodup := by decide +kernel
  sck := by kernel_rfl!
theorem b_get (w : World) (a b : Value) : BindsG w 136 ⟨[a, b], []⟩ ((mthD "get").1.zip [a, b, .none]) := bindsG_peek fun S => by kernel_rfl!
theorem b_all (w : World) (a b : Value) : BindsG w 128 ⟨[a, b], []⟩ ((mthD "get_all").1.zip [a, b]) := bindsG_peek fun S => by kernel_rfl!
theorem b_items (w : World) (a : Value) : BindsG w 153 ⟨[a], []⟩ ((mthD "items").1.zip [a]) := bindsG_peek fun S => by kernel_rfl!

inductive Flat : PyData → Prop
  | none : Flat .none
  | str {x} : Flat (.str x)
  | pair {x y} : Flat (.tuple [.str x, .str y])
section
variable {w : World} {A : Around} {env : Env} {sc sc' : Scope} {F F' ML M M' M₁ T : List Addr} {Hs Hs' : HL} {vs vs' vs₁ : Vars} {wd wd' wd₁ wd₂ : Wd} {s : Shared} {n m : Nat} {h h' h₁ : Heap} {pv : PV} {X : Value → Shared → Prop}

theorem thaw_flat {l : Addr} {o : Obj} {v : Value} {d : PyData} (hd : Flat d) (hl : h₁.get? l = some o) (hc : o.cls = .type "list") (r : Rd h₁ M₁ v d) : Rd h₁ (l :: M₁) v d := by
  induction hd with
  | none => rw [r.none_inv]; exact Rd.none
  | str => obtain ⟨t, rfl⟩ := r.str_inv; exact Rd.str _ _
  | pair =>
    obtain ⟨a, vs, rfl, h1, _, h3, r⟩ := r.tup_inv
    obtain ⟨u, z, e1, ru, rz⟩ := RdA.two r
    obtain ⟨t, rfl⟩ := ru.str_inv
    obtain ⟨t', rfl⟩ := rz.str_inv
    refine Rd.tup h1 (fun x => ?_) (by rw [e1]; exact .cons (Rd.str _ _) (.cons (Rd.str _ _) .nil))
    rcases List.mem_cons.mp x with rfl | x
    · obtain ⟨o', ho', hc', _⟩ := h1
      rw [Option.some.inj (hl.symm.trans ho'), hc'] at hc
      exact absurd hc (by decide)
    · exact h3 x
theorem thaw_flats {l : Addr} {o : Obj} (hl : h₁.get? l = some o) (hc : o.cls = .type "list") {ds : List PyData} : ∀ {vs : List Value}, (∀ d ∈ ds, Flat d) → RdA h₁ M₁ vs ds → RdA h₁ (l :: M₁) vs ds := by
  induction ds with
  | nil => intro vs _ r; rw [r.nil_inv]; exact .nil
  | cons d ds ih =>
    intro vs hd r
    obtain ⟨v, vs', rfl, r1, r2⟩ := r.cons_inv
    exact .cons (thaw_flat (hd _ (.head _)) hl hc r1) (ih (fun d m => hd d (.tail _ m)) r2)
/-- what a reading method hands back, seen with the list among what may turn -/
theorem thaw_out {l : Addr} {o : Obj} {k : Nat} {v : Value} {d : PyData} (hlk : l < k) (hl : h₁.get? l = some o) (hc : o.cls = .type "list") (hd : Flat d ∨ ∃ ds, d = .list ds ∧ (∀ d ∈ ds, Flat d) ∧ NewV k v) (r : Rd h₁ M₁ v d) : Rd h₁ (l :: M₁) v d := by
  rcases hd with hd | ⟨ds, rfl, hd, D, rfl, hD⟩
  · exact thaw_flat hd hl hc r
  · obtain ⟨a, vs, e, h1, _, h3, r⟩ := r.list_inv
    cases e
    refine Rd.list h1 (fun x => ?_) (thaw_flats hl hc hd r)
    rcases List.mem_cons.mp x with rfl | x
    · exact absurd hlk (Nat.not_lt.mpr hD)
    · exact h3 x
theorem ro_call {d : PyData} {pvs : List PV} {f a l : Addr} {k : Nat} {its : List (Str × Str)} {mm : String} {args : Args} {vals : List Value} {fl : Fl} {Q : Value → Shared → Prop} (MO : MthOk w f mm) (hB : BindsG w f args ((mthD mm).1.zip vals))
    (hX : ∀ {A env F ML M Hs s} {Q : Flow → Shared → Prop} {X}, Si w A env (mthD mm).2.2 F ML M Hs ((mthD mm).1.zip pvs) [] s n →
      (∀ f Hs' M' ML' h' tk, Go (Own env (mthD mm).2.2 ++ ML) Hs F M s.heap Hs' M' h' → (∀ a ∈ ML', a ∈ ML ∨ s.heap.objs.size ≤ a) → Si w A env (mthD mm).2.2 F ML' M' Hs' vs' [] { s with heap := h', toks := tk } n → FlR w h' M' Hs' ML' f fl → (∀ x, f = .ret x → (∃ ds, d = .list ds) → NewV s.heap.objs.size x) → Q f { s with heap := h', toks := tk }) → wpAny (model PG w) A (execs (mthD mm).2.1 env) Q X s)
    (I : Si w A env sc F ML M Hs vs wd s (n + 1)) (e1 : Hs[k]? = some (a, l)) (e2 : wd[k]? = some its) (r : All2 (Vr w.params s.heap (M.filter (· ≠ l)) [] []) vals pvs) (hl : (mthD mm).1.length = pvs.length) (hm : pvs.all notMut = true) (hv : retV fl = .dat d)
    (hd : Flat d ∨ ∃ ds, d = .list ds ∧ (∀ d ∈ ds, Flat d) ∧ fl = .ret (.dat (.list ds))) (hQ : PostE w F ML M Hs s Q (.dat d) wd) : wpAny (model PG w) A (call (.ref f) args.pos args.kw) Q X s := by
  obtain ⟨Iz, _, _⟩ := freeze I e1 e2
  refine fn_callR (Rx := fun i v => (∃ ds, d = .list ds) → NewV i v) (fun i j v h k e => newV_mono i j v h (k e)) MO.g hB hX Iz r hl hm hv fun v Hs₁ M₁ h₁ tk₁ G W m' rv hn => ?_
  have hz := W.len
  have hz : Hs₁ = [] := by simpa using hz
  subst hz
  obtain ⟨G', W', m'', kp⟩ := thaw I e1 G m'
  obtain ⟨_, ⟨ws, z, as, d3, d4⟩⟩ := I.wi.hd k _ its e1 e2
  refine hQ v Hs _ h₁ tk₁ G' W' m'' (Rd.vr (thaw_out (k := s.heap.objs.size) (Heap.lt_size d3) (kp _ d3) rfl ?_ rv.rd))
  rcases hd with hd | ⟨ds, rfl, hd, rfl⟩
  · exact .inl hd
  · exact .inr ⟨ds, rfl, hd, hn (fun xs e => by cases e) _ rfl ⟨ds, rfl⟩⟩
end
theorem pick_range {α : Type} (xs : List α) : ∀ b : Nat, (List.range b).filterMap (xs[·]?) = xs.take b
  | 0 => by simp
  | b + 1 => by
    rw [List.range_succ, List.filterMap_append, pick_range xs b, List.take_add_one]
    cases h : xs[b]? <;> simp [h]
theorem pickL_upto {α : Type} (xs : List α) (b : Nat) (h : b ≤ xs.length) : pickL xs none (some (b : Int)) none = xs.take b := by
  have e : sliceBounds none (some (b : Int)) none xs.length = (((0 : Nat) : Int), (b : Int), 1) := by
    unfold sliceBounds
    simp only [Option.getD_none]
    have : max 0 (min (if (b : Int) < 0 then (b : Int) + (xs.length : Int) else (b : Int)) (xs.length : Int)) = (b : Int) := by
      rw [if_neg (by omega)]; omega
    simp [this]
  unfold pickL
  rw [e]
  simp only
  rw [sliceRange_one, ← pick_range]
  simp
theorem pickL_all {α : Type} (xs : List α) : pickL xs none none none = xs := by
  have e : sliceBounds none none none xs.length = (((0 : Nat) : Int), ((xs.length : Nat) : Int), 1) := by
    unfold sliceBounds
    simp
  unfold pickL
  rw [e]
  simp only
  rw [sliceRange_one]
  have := pick_range xs xs.length
  rw [List.take_length] at this
  simpa using this
theorem items_body {w : World} {A : Around} {env : Env} {F ML M : List Addr} {Hs : HL} {s : Shared} {Q : Flow → Shared → Prop} {X : Value → Shared → Prop} {its : List (Str × Str)} (hi : okI its = true)
    (I : Si w A env (mthD "items").2.2 F ML M Hs ((mthD "items").1.zip [.inst (.list (its.map pairD))]) [] s (8 + 1 + 1))
    (hQ : PostXR w A env (mthD "items").2.2 F ML M Hs s (8 + 1 + 1) Q (.ret (.dat (.list (its.map pairD)))) [(⟨#[115, 101, 108, 102]⟩, .inst (.list (its.map pairD)))] []) :
    wpAny (model PG w) A (execs (mthD "items").2.1 env) Q X s := by
  generalize hb : (mthD "items") = d at *
  conv at hb => 
    lhs
    reduce
  subst hb
  have hz : its.length ≤ 60 := by unfold okI at hi; rw [Bool.and_eq_true, decide_eq_true_eq] at hi; exact hi.1
  have sm : small = 1000 := rfl
  refine ret_slice (r_attr rfl (r_name rfl rfl)) .none .none .none (by decide) (by rw [List.length_map]; omega) I (by rw [pickL_all]; exact hQ)
/-- [kv[1] for kv in self._headers if kv[0].lower() == name] -/
theorem all_body {w : World} {A : Around} {env : Env} {F ML M : List Addr} {Hs : HL} {s : Shared} {Q : Flow → Shared → Prop} {X : Value → Shared → Prop} {its : List (Str × Str)} {x : Str} (hx : okT x = true) (hi : okI its = true)
    (I : Si w A env (mthD "get_all").2.2 F ML M Hs ((mthD "get_all").1.zip [.inst (.list (its.map pairD)), .dat (.str x)]) [] s (8 + 1 + 1))
    (hQ : PostXR w A env (mthD "get_all").2.2 F ML M Hs s (8 + 1 + 1) Q (.ret (.dat (.list (hAll its x)))) [(⟨#[110, 97, 109, 101]⟩, .dat (.str (lowT x))), (⟨#[115, 101, 108, 102]⟩, .inst (.list (its.map pairD))), (⟨#[110, 97, 109, 101]⟩, .dat (.str x))] []) :
    wpAny (model PG w) A (execs (mthD "get_all").2.1 env) Q X s := by
  generalize hb : (mthD "get_all") = d at *
  conv at hb => 
    lhs
    reduce
  subst hb
  have hz : its.length ≤ 60 := by unfold okI at hi; rw [Bool.and_eq_true, decide_eq_true_eq] at hi; exact hi.1
  have hi : ∀ p ∈ its, okT p.1 = true := fun p hp => by
    unfold okI at hi
    rw [Bool.and_eq_true, List.all_eq_true] at hi
    have := hi.2 p hp
    rw [Bool.and_eq_true] at this
    exact this.1
  have sm : small = 1000 := rfl
  refine then_lc (s_name rfl (r_kw rfl (r_name rfl rfl) (r_one rfl (r_meth rfl (r_name rfl rfl) r_nil (lower_ev hx))) (cst_ev (.inl ⟨_, rfl⟩) (low_ok hx))) rfl) rfl (i_of rfl (r_attr rfl (r_name rfl rfl)) rfl (by rw [List.length_map]; omega))
    (c_one (ys := its) (enc := pairD) (f := fun p => lowT p.1 == lowT x) (g := fun p => .str p.2) (fun p hp => ⟨_, .name rfl rfl rfl, t_one (r_tcmp (r_meth rfl (r_sub rfl (r_name rfl rfl) (r_const rfl) rfl) r_nil (lower_ev (hi p hp))) (r_name rfl rfl) rfl (cmp_str (low_ok (hi p hp)) (low_ok hx))), fun _ => r_sub rfl (r_name rfl rfl) (r_const rfl) rfl⟩) (by omega)) I hQ

section
variable {w : World} {A : Around} {env : Env} {sc sc' : Scope} {F F' ML M M' M₁ T : List Addr} {Hs Hs' : HL} {vs vs' vs₁ : Vars} {wd wd' wd₁ wd₂ : Wd} {s : Shared} {n m : Nat} {h h' h₁ : Heap} {pv : PV} {X : Value → Shared → Prop}
theorem hdr_inv {v : Value} {k : Nat} (r : Vr w.params h M Hs ML v (.hdr k)) : ∃ a l, v = .ref a ∧ Hs[k]? = some (a, l) := by
  exact r.shape
theorem flat_all {its : List (Str × Str)} {x : Str} : ∀ d ∈ hAll its x, Flat d := fun d hd => by
  obtain ⟨p, _, rfl⟩ := List.mem_map.mp hd
  exact .str
theorem flat_items {its : List (Str × Str)} : ∀ d ∈ its.map pairD, Flat d := fun d hd => by
  obtain ⟨p, _, rfl⟩ := List.mem_map.mp hd
  exact .pair
theorem flat_get {its : List (Str × Str)} {x : Str} : Flat (hGet its x) := by
  unfold hGet
  split
  · exact .str
  · exact .none
theorem flat_list {ds : List PyData} (h : Flat (.list ds)) : False := nomatch h
theorem get_call {k : Nat} {a l : Addr} {its : List (Str × Str)} {x : Str} {v : Value} {Q : Value → Shared → Prop} (hx : okT x = true) (hi : okI its = true) (I : Si w A env sc F ML M Hs vs wd s 10) (e1 : Hs[k]? = some (a, l)) (e2 : wd[k]? = some its) (r : Vr w.params s.heap M Hs ML v (.dat (.str x)))
    (hQ : PostE w F ML M Hs s Q (.dat (hGet its x)) wd) : wpAny (model PG w) A (call (.ref 136) [.ref a, v]) Q X s := by
  obtain ⟨t, rfl⟩ := r.rd.str_inv
  obtain ⟨vs', fl, he, hv⟩ := get_ev hx hi
  obtain ⟨_, rs, _⟩ := freeze I e1 e2
  exact ro_call (args := ⟨[.ref a, .str x t], []⟩) (m_get w) (b_get w _ _) (fun {A env F ML M Hs s Q X} I hQ => (evN_snd (leaf0 w) 8).2.2 I he fun f Hs' M' ML' h' tk G hm I' fr => hQ f Hs' M' ML' h' tk G hm I' fr fun _ _ ⟨ds, e⟩ => by
      exact (flat_list (e ▸ flat_get (its := its) (x := x))).elim) I e1 e2 (.cons (.inl rs) (.cons (Rd.str _ _).vr (.cons Rd.none.vr .nil))) rfl rfl hv (.inl flat_get) hQ
theorem all_call {k : Nat} {a l : Addr} {its : List (Str × Str)} {x : Str} {v : Value} {Q : Value → Shared → Prop} (hx : okT x = true) (hi : okI its = true) (I : Si w A env sc F ML M Hs vs wd s 11) (e1 : Hs[k]? = some (a, l)) (e2 : wd[k]? = some its) (r : Vr w.params s.heap M Hs ML v (.dat (.str x)))
    (hQ : PostE w F ML M Hs s Q (.dat (.list (hAll its x))) wd) : wpAny (model PG w) A (call (.ref 128) [.ref a, v]) Q X s := by
  obtain ⟨t, rfl⟩ := r.rd.str_inv
  obtain ⟨_, rs, _⟩ := freeze I e1 e2
  exact ro_call (args := ⟨[.ref a, .str x t], []⟩) (m_all w) (b_all w _ _) (fun {A env F ML M Hs s Q X} I hQ => all_body hx hi I fun f Hs' M' ML' h' tk G hm I' fr hn => hQ f Hs' M' ML' h' tk G hm I' fr fun x e _ => hn x e) I e1 e2 (.cons (.inl rs) (.cons (Rd.str _ _).vr .nil)) rfl rfl rfl (.inr ⟨_, rfl, flat_all, rfl⟩) hQ
theorem items_call {k : Nat} {a l : Addr} {its : List (Str × Str)} {Q : Value → Shared → Prop} (hi : okI its = true) (I : Si w A env sc F ML M Hs vs wd s 11) (e1 : Hs[k]? = some (a, l)) (e2 : wd[k]? = some its)
    (hQ : PostE w F ML M Hs s Q (.dat (.list (its.map pairD))) wd) : wpAny (model PG w) A (call (.ref 153) [.ref a]) Q X s := by
  obtain ⟨_, rs, _⟩ := freeze I e1 e2
  exact ro_call (args := ⟨[.ref a], []⟩) (m_items w) (b_items w _) (fun {A env F ML M Hs s Q X} I hQ => items_body hi I fun f Hs' M' ML' h' tk G hm I' fr hn => hQ f Hs' M' ML' h' tk G hm I' fr fun x e _ => hn x e) I e1 e2 (.cons (.inl rs) .nil) rfl rfl rfl (.inr ⟨_, rfl, flat_items, rfl⟩) hQ
end
/-- «l[:] = D» -/
theorem set_slice_all {w : World} {A : Around} {s : Shared} {l sl D : Addr} {items new : Array Value} {n : Nat} {Q : Unit → Shared → Prop} {X : Value → Shared → Prop} (hl : s.heap.get? l = some ⟨.type "list", none, .seq items n, #[]⟩) (hs : s.heap.IsSliceOf sl .none .none .none) (hD : s.heap.IsList D new) (hne : l ≠ D)
    (hz : items.size ≤ small) (hz' : new.size ≤ small) (hQ : ∀ h' k, h'.get? l = some ⟨.type "list", none, .seq new k, #[]⟩ → Heap.SameBut l s.heap h' → Q () { s with heap := h' }) :
    wpAny (model PG w) A (setItem (.ref l) (.ref sl) (.ref D)) Q X s := by
  have sm : small = 1000 := rfl
  have szl : sizeLine = 2 ^ 24 := rfl
  have hT : s.TypeIs (.ref l) "list" := ⟨_, hl, rfl⟩
  obtain ⟨os, hos, hcs, hds⟩ := id hs
  have hTs : s.TypeIs (.ref sl) "slice" := ⟨os, hos, hcs⟩
  have hTD : s.TypeIs (.ref D) "list" := hD.typeIs
  obtain ⟨oD, hoD, hcD, kD, hdD⟩ := hD
  unfold setItem
  refine wpAny_holding ?_
  refine wpAny_bind (wpAny_sequenceKey hT (by decide) ?_)
  refine wpAny_bind (wpAny_callSpecial?_slot (name := Str.ofString "__setitem__") hT slot_list_setitem
    (wpAny_call_entry slot_list_setitem hT entry_list_setitem ?_ (args_list_setitem _ _ _)))
  show wpAny _ _ (Builtin.List.listSubscript? (.ref sl) >>= _) _ _ s
  refine wpAny_bind ?_
  unfold Builtin.List.listSubscript?
  refine wpAny_bind (wpAny_specialOf hTs slice_no_index ?_)
  simp only [Option.isNone_none, if_true]
  refine wpAny_pure ?_
  show wpAny _ _ (typeOf (.ref sl) >>= _) _ _ s
  refine wpAny_bind (wpAny_typeOf hTs ?_)
  rw [if_neg (by decide)]
  rw [listSliceParts_eq]
  refine wpAny_bind (wpAny_bind (wpAny_field hos hds (x := .none) rfl (wpAny_bind (wpAny_listPart .none ?_))))
  rw [if_neg (show ¬ ((rawPart none == rawInt 0) = true) from Bool.false_ne_true)]
  refine wpAny_bind (wpAny_field hos hds (x := .none) rfl (wpAny_bind (wpAny_listPart .none ?_)))
  refine wpAny_bind (wpAny_field hos hds (x := .none) rfl (wpAny_bind (wpAny_listPart .none (wpAny_pure ?_))))
  have hsame : Builtin.List.listSameRef (.ref l) (.ref D) = false := by
    show (l == D) = false
    exact beq_eq_false_iff_ne.mpr hne
  rw [hsame]
  simp only [Bool.false_eq_true, if_false]
  unfold Builtin.List.listAllItems
  refine wpAny_bind (wpAny_bind (wpAny_typeOf hTD ?_))
  rw [if_pos (by decide)]
  unfold Builtin.List.listItems
  refine wpAny_bind (wpAny_seqItems hoD hdD (wpAny_pure ?_))
  refine wpAny_bind (wpAny_bind (wpAny_seqItems hl rfl (wpAny_pure ?_)))
  refine wpAny_bind (wpAny_of_eq (sliceIndices_raw none none none items.size (by simp)) ?_)
  have eb : sliceBounds none none none items.size = ((0 : Int), (items.size : Int), 1) := by unfold sliceBounds; simp
  rw [eb, if_pos (show (((0 : Int), (items.size : Int), (1 : Int)).2.snd == 1) = true from rfl)]
  refine wpAny_bind (wpAny_rule ?_)
  rw [if_neg (by simp [Builtin.List.listTooLong]; omega)]
  have key : ∀ f : Array Value → Array Value, f items = new → wpAny (model PG w) A.in1 (Builtin.List.listUpdate (.ref l) f) (fun _ s' => Q () s') X s := fun f e1 => by
    obtain ⟨n', hd'⟩ := Obj.data_mapSeq (o := ⟨.type "list", none, .seq items n, #[]⟩) rfl f
    refine wpAny_updateSeq hl rfl ?_ (by omega) (by rw [e1]; omega)
    refine hQ _ n' ?_ (Heap.SameBut.update ..)
    rw [Heap.get?_update_self _ hl (by simp [Obj.mapSeq, Obj.isFreed])]
    rw [e1] at hd'
    simp only [Obj.mapSeq] at hd' ⊢
    rw [hd']
  refine wpAny_bind (wpAny_mono (key _ ?_) (fun _ s' h => wpAny_bind (wpAny_letGo (wpAny_pure ⟨.none, rfl, wpAny_pure h⟩))) fun _ _ h => h)
  have : (max (0 : Int) (items.size : Int)).toNat = items.size := by omega
  simp [this]
section
variable {w : World} {A : Around} {env : Env} {sc sc' : Scope} {F F' ML M M' M₁ T : List Addr} {Hs Hs' Hs₁ : HL} {vs vs' vs₁ vf : Vars} {wd wd' wd₁ wd₂ : Wd} {s : Shared} {n m : Nat} {h h' h₁ : Heap} {pv : PV} {X : Value → Shared → Prop}

/-- a header's list, turned -/
theorem hdr_upd {k : Nat} {a l : Addr} {its its' : List (Str × Str)} {new : Array Value} {z : Nat} (I : Si w A env sc F ML M Hs vs wd s n) (e1 : Hs[k]? = some (a, l)) (e2 : wd[k]? = some its) (hl : h'.get? l = some ⟨.type "list", none, .seq new z, #[]⟩) (sb : Heap.SameBut l s.heap h') (r : RdA s.heap M new.toList (its'.map pairD)) :
    Go [] Hs F M s.heap Hs M h' ∧ WInv w M Hs (wd.set k its') h' ∧ Mt h' M := by
  have mem : (a, l) ∈ Hs := List.mem_of_getElem? e1
  have lM : l ∈ M := I.wi.hlM _ mem
  have lH : l ∈ Hs.map (·.2) := List.mem_map.mpr ⟨_, mem, rfl⟩
  have ne : ∀ {x}, x ∉ M → x ≠ l := fun h e => h (e ▸ lM)
  have hid : ∀ x o, (Hid s.heap M).get? x = some o → (Hid h' M).get? x = some o := fun x o e => Hid.get (sb.extBut x o (ne (Hid.off e)) (Hid.of e)) (Hid.off e)
  refine ⟨⟨fun x o _ h2 _ e => sb.extBut x o (fun e => h2 (e ▸ lH)) e, fun x _ _ h2 o e => ⟨o.slots, sb.extBut x o (fun e => h2 (e ▸ lH)) e⟩, Nat.le_of_eq sb.1.symm, fun _ x => x, fun _ x => .inl x, [], by simp, (fun _ x => no_mem x)⟩, ⟨fun x o e => hid x o (I.wi.kin x o e), I.wi.tr.keeps hid, by rw [List.length_set]; exact I.wi.len, fun i p it q1 q2 => ?_, I.wi.hlM, I.wi.nd⟩, fun x hx => by rw [sb.1]; exact I.mt x hx⟩
  rw [List.getElem?_set] at q2
  by_cases hik : k = i
  · subst hik
    rw [e1] at q1; cases q1
    rw [if_pos rfl] at q2
    split at q2
    · cases q2
      obtain ⟨⟨dx, t, c, d1, d2⟩, _⟩ := I.wi.hd k _ its e1 e2
      obtain ⟨as, r⟩ := r
      exact ⟨⟨dx, t, c, hid _ _ d1, hid _ _ d2⟩, ⟨new, z, as, hl, ReadsAll.keeps hid r⟩⟩
    · cases q2
  · rw [if_neg hik] at q2
    have hpl : p.2 ≠ l := fun e => by
      obtain ⟨i1, j1⟩ := List.getElem?_eq_some_iff.mp q1
      obtain ⟨i2, j2⟩ := List.getElem?_eq_some_iff.mp e1
      have hn := I.wi.nd
      have key := List.pairwise_iff_getElem.mp hn
      rcases Nat.lt_or_gt_of_ne hik with hlt | hlt
      · exact key k i (by rw [List.length_map]; exact i2) (by rw [List.length_map]; exact i1) hlt (by simp [j1, j2, e])
      · exact key i k (by rw [List.length_map]; exact i1) (by rw [List.length_map]; exact i2) hlt (by simp [j1, j2, e])
    exact (I.wi.hd i p it q1 q2).mv hid fun o e => sb.extBut _ o hpl e
/-- the state without one header's list, for what only reads it -/
theorem freezeV {k : Nat} {a l : Addr} {its : List (Str × Str)} (I : Si w A env sc F ML M Hs vs wd s n) (e1 : Hs[k]? = some (a, l)) (e2 : wd[k]? = some its)
    (hv : ∀ x pv, vf.lookup x = some pv → vs.lookup x = some pv ∧ (∃ y, pv = .dat (.str y)) ∨ vs.lookup x = some (.self l) ∧ pv = .inst (.list (its.map pairD))) :
    Si w A env sc F [] (M.filter (· ≠ l)) [] vf [] s n := by
  obtain ⟨I', ri, _⟩ := freeze I e1 e2
  refine ⟨I'.ek, I'.ai, I'.wi, ⟨?_, I'.ei.locM, I'.ei.locH, I'.ei.cells, I'.ei.cellOf, I'.ei.inj, I'.ei.ml, I'.ei.mlx, I'.ei.in2⟩, I'.mt, I'.fh⟩
  obtain ⟨mm, hn, hv₀⟩ := I.ei.ns
  refine ⟨mm, hn, fun x pv e => ?_⟩
  rcases hv x pv e with ⟨q, y, rfl⟩ | ⟨q, rfl⟩
  · obtain ⟨v, r, at'⟩ := hv₀ x _ q
    obtain ⟨t, rfl⟩ := r.rd.str_inv
    exact ⟨_, (Rd.str _ _).vr, at'⟩
  · obtain ⟨v, r, at'⟩ := hv₀ x _ q
    obtain ⟨_, _, _, _, rfl, d1, d2⟩ := r.shape
    
    refine ⟨_, .inl ?_, at'⟩
    have hid : ∀ x o, (Hid s.heap M).get? x = some o → (Hid s.heap (M.filter (· ≠ l))).get? x = some o := fun x o e => Hid.get (Hid.of e) fun m => Hid.off e (List.mem_filter.mp m).1
    obtain ⟨_, ⟨ws, z, as, d3, d4⟩⟩ := I.wi.hd k _ its e1 e2
    have rl : Rd s.heap (M.filter (· ≠ l)) (.ref l) (.list (its.map pairD)) := Rd.list ⟨_, d3, rfl, _, rfl⟩ (fun m => by simpa using (List.mem_filter.mp m).2) ⟨as, ReadsAll.keeps hid d4⟩
    obtain ⟨bs, rl⟩ := rl
    exact .inst (hid _ _ d1) (hid _ _ d2) rl
/-- «name = …» and «o[:] = [… for …]» -/
theorem store_lc {st : Stmt} {oe elt : Expr} {g : Comprehension} {gs : List Comprehension} {sp p1 p2 p3 : Pos} {k : Nat} {a l : Addr} {its its' : List (Str × Str)} {xs : List PyData} {Q : Flow → Shared → Prop} (e1 : Hs[k]? = some (a, l)) (e2 : wd[k]? = some its) (h1 : ∀ wd, ExStep lf0 (evN lf0 m) sc st vs wd .next vs₁ wd)
    (hv : ∀ x pv, vf.lookup x = some pv → vs₁.lookup x = some pv ∧ (∃ y, pv = .dat (.str y)) ∨ vs₁.lookup x = some (.self l) ∧ pv = .inst (.list (its.map pairD)))
    (hp : plainScope sc sc' = true) (h2 : ItersOf (evN lf0 m) sc vf g.iter [] xs []) (h3 : CompOf (evN lf0 m) sc' elt (g :: gs) xs (seenIn sc' vf) [] (its'.map pairD, [])) (ho : ∀ wd, (evN lf0 m).ev sc oe vs₁ wd (.obj l) wd) (hz : its.length ≤ small) (hz' : its'.length ≤ small)
    (I : Si w A env sc F ML M Hs vs wd s (m + 1 + 1)) (hQ : PostX w A env sc F ML M Hs s (m + 1 + 1) Q .next vs₁ (wd.set k its')) : wpAny (model PG w) A (execs [st, .Assign [.Subscript oe (.Slice none none none sp) p1] (.ListComp elt (g :: gs) sc' p2) p3] env) Q X s := by
  obtain ⟨hE, hT, hX⟩ := evN_snd (leaf0 w) m
  have sm : small = 1000 := rfl
  refine execs_one (exStep_snd (leaf0 w (m + 1) (Nat.le_add_left 1 m)) hE hT hX I (h1 wd) fun f Hs₁ M₁ ML₁ g₁ tk₁ G₁ hm₁ I₁ fr₁ => ?_)
  have : f = .next := fr₁
  subst this
  have e1' := G₁.hsGet _ _ e1
  have If := freezeV (vf := vf) I₁ e1' e2 hv
  refine execs_one (wpAny_Assign_Subscript (listcomp_fresh hE hT (If.less (Nat.le_succ _)) hp h2 h3 fun D Hs₂ M₂ g₂ tk₂ hD G₂ W₂ m₂ r₂ => ?_) swaps_sub)
  have hz₂ := W₂.len
  have hz₂ : Hs₂ = [] := by simpa using hz₂
  subst hz₂
  obtain ⟨G', W', m', kp⟩ := thaw I₁ e1' G₂ m₂
  obtain ⟨_, ⟨ws, z, as, d3, d4⟩⟩ := I₁.wi.hd k _ its e1' e2
  have ltl := Heap.lt_size d3
  have r₂' : Rd g₂ (l :: M₂) (.ref D) (.list (its'.map pairD)) := thaw_out (k := g₁.objs.size) ltl (kp _ d3) rfl (.inr ⟨_, rfl, flat_items, D, rfl, hD⟩) (Vr.rd (ML := []) (.inl r₂))
  have I₂ := I₁.go G' W' m' tk₂
  refine hE (I₂.less (Nat.le_succ _)) (ho wd) fun ov Hs₃ M₃ g₃ tk₃ G₃ W₃ m₃ r₃ => ?_
  obtain rfl := r₃.shape
  have I₃ := I₂.go G₃ W₃ m₃ tk₃
  refine wpAny_Slice (wpAny_evalPart_none (wpAny_evalPart_none (wpAny_evalPart_none ?_)))
  have k₄ := Kp.push g₃ { cls := .type "slice", data := .fields #[.none, .none, .none] }
  have G₄ := Go.kp k₄ [] Hs₃ F M₃
  have I₄ := I₃.go G₄ (W₃.kp k₄) (m₃.kp k₄) tk₃
  have e1₄ := G₃.hsGet _ _ e1'
  have r₄ := (I₂.vr (G₃.trans' G₄) (Rd.vr r₂')).rd
  obtain ⟨D', new, e, hDl, _, hDM, ra⟩ := r₄.list_inv
  cases e
  obtain ⟨_, ⟨ws', z', as', d5, d6⟩⟩ := I₄.wi.hd k _ its e1₄ e2
  have sz1 := RdA.len ⟨as', d6⟩
  have sz2 := ra.len
  rw [Array.length_toList, List.length_map] at sz1 sz2
  refine set_slice_all d5 (Heap.IsSliceOf.new ..) hDl (fun e => hDM (e ▸ I₄.wi.hlM _ (List.mem_of_getElem? e1₄))) (by omega) (by omega) fun h₅ y hl₅ sb => ?_
  obtain ⟨G₅, W₅, m₅⟩ := hdr_upd I₄ e1₄ e2 hl₅ sb ra
  have I₅ := I₄.go G₅ W₅ m₅ tk₃
  have Gt := ((G'.trans' G₃).trans' G₄).trans' G₅
  refine wpAny_execs_nil ?_
  refine hQ .next Hs₃ M₃ ML₁ h₅ tk₃ (G₁.trans (Gt.weaken (S' := []) fun _ x => x) fun _ x => no_mem x) hm₁ I₅ rfl
end
theorem m_del (w : World) : MthOk w 109 "__delitem__" where
  body := by kernel_rfl!
  scope := by kernel_rfl!
  clo := by kernel_rfl!
  glo := by kernel_rfl!
  code := by kernel_rfl!
  keep := by kernel_rfl!
  find := by kernel_rfl!
  type := by kernel_rfl!
  kinds := by kernel_rfl!
  nodup := by decide +kernel
  sck := by kernel_rfl!
theorem m_set (w : World) : MthOk w 104 "__setitem__" where
  body := by kernel_rfl!
  scope := by kernel_rfl!
  clo := by kernel_rfl!
  glo := by kernel_rfl!
  code := by kernel_rfl!
  keep := by kernel_rfl!
  find := by kernel_rfl!
  type := by kernel_rfl!
  kinds := by kernel_rfl!
  nodup := by decide +kernel
  sck := by kernel_rfl!
theorem b_del (w : World) (a b : Value) : BindsG w 109 ⟨[a, b], []⟩ ((mthD "__delitem__").1.zip [a, b]) := bindsG_peek fun S => by kernel_rfl!
theorem b_set (w : World) (a b c : Value) : BindsG w 104 ⟨[a, b, c], []⟩ ((mthD "__setitem__").1.zip [a, b, c]) := bindsG_peek fun S => by kernel_rfl!
theorem noSeq189 (w : World) : noSeq (KF w) 189 = true := by kernel_rfl!

theorem okI_names {its : List (Str × Str)} (hi : okI its = true) : its.length ≤ 60 ∧ ∀ p ∈ its, okT p.1 = true ∧ okT p.2 = true := by
  unfold okI at hi
  rw [Bool.and_eq_true, decide_eq_true_eq, List.all_eq_true] at hi
  exact ⟨hi.1, fun p hp => by have := hi.2 p hp; rw [Bool.and_eq_true] at this; exact this⟩
noncomputable def delI (its : List (Str × Str)) (x : Str) : List (Str × Str) := its.filter fun p => lowT p.1 != lowT x
section
variable {w : World} {A : Around} {env : Env} {sc sc' : Scope} {F F' ML M M' M₁ T : List Addr} {Hs Hs' Hs₁ : HL} {vs vs' vs₁ vf : Vars} {wd wd' wd₁ wd₂ : Wd} {s : Shared} {n m : Nat} {h h' h₁ : Heap} {pv : PV} {X : Value → Shared → Prop}
theorem del_body {k : Nat} {a l : Addr} {its : List (Str × Str)} {x : Str} {Q : Flow → Shared → Prop} (hx : okT x = true) (hi : okI its = true) (e1 : Hs[k]? = some (a, l)) (e2 : wd[k]? = some its)
    (I : Si w A env (mthD "__delitem__").2.2 F ML M Hs ((mthD "__delitem__").1.zip [.self l, .dat (.str x)]) wd s (8 + 1 + 1))
    (hQ : PostX w A env (mthD "__delitem__").2.2 F ML M Hs s (8 + 1 + 1) Q .next [(⟨#[110, 97, 109, 101]⟩, .dat (.str (lowT x))), (⟨#[115, 101, 108, 102]⟩, .self l), (⟨#[110, 97, 109, 101]⟩, .dat (.str x))] (wd.set k (delI its x))) :
    wpAny (model PG w) A (execs (mthD "__delitem__").2.1 env) Q X s := by
  generalize hb : (mthD "__delitem__") = d at *
  conv at hb => 
    lhs
    reduce
  subst hb
  obtain ⟨hz, hn⟩ := okI_names hi
  have sm : small = 1000 := rfl
  have hz' : (delI its x).length ≤ its.length := List.length_filter_le _ _
  refine store_lc (its' := delI its x) (vf := [(⟨#[110, 97, 109, 101]⟩, .dat (.str (lowT x))), (⟨#[115, 101, 108, 102]⟩, .inst (.list (its.map pairD)))]) e1 e2 (fun wd => s_name rfl (r_kw rfl (r_name rfl rfl) (r_one rfl (r_meth rfl (r_name rfl rfl) r_nil (lower_ev hx))) (cst_ev (.inr ⟨_, rfl⟩) (low_ok hx))) rfl) (fun y pv e => ?_) rfl
    (i_of rfl (r_attr rfl (r_name rfl rfl)) rfl (by rw [List.length_map]; omega))
    (c_one (ys := its) (enc := pairD) (f := fun p => lowT p.1 != lowT x) (g := pairD) (fun p hp => ⟨_, .name rfl rfl rfl, t_one (r_tcmp (r_meth rfl (r_sub rfl (r_name rfl rfl) (r_const rfl) rfl) r_nil (lower_ev (hn p hp).1)) (r_name rfl rfl) rfl (cmp_strN (low_ok (hn p hp).1) (low_ok hx))), fun _ => r_name rfl rfl⟩) (by omega))
    (fun wd => r_attrS rfl (r_name rfl rfl)) (by omega) (by omega) I hQ
  rw [lookup_cons'] at e
  split at e
  · rename_i q
    subst q
    cases e
    exact .inl ⟨rfl, _, rfl⟩
  · rw [lookup_cons'] at e
    split at e
    · rename_i q
      subst q
      cases e
      exact .inr ⟨rfl, rfl⟩
    · cases e
theorem del_call {k : Nat} {a l : Addr} {its : List (Str × Str)} {x : Str} {va v : Value} {Q : Value → Shared → Prop} (hx : okT x = true) (hi : okI its = true) (I : Si w A env sc F ML M Hs vs wd s 11) (e1 : Hs[k]? = some (a, l)) (e2 : wd[k]? = some its) (ra : Vr w.params s.heap M Hs ML va (.self l)) (r : Vr w.params s.heap M Hs ML v (.dat (.str x)))
    (hQ : PostE w F ML M Hs s Q (.dat .none) (wd.set k (delI its x))) : wpAny (model PG w) A (call (.ref 109) [va, v]) Q X s := by
  exact fn_callG (args := ⟨[va, v], []⟩) (fl := .next) (m_del w).g (b_del w _ _) (fun {A env F ML M s Q X} I hQ => del_body hx hi e1 e2 I hQ) I (.cons ra (.cons r .nil)) rfl rfl rfl hQ
/-- «del self[name]» on a header -/
theorem delItem_hdr {k : Nat} {a l : Addr} {its : List (Str × Str)} {x : Str} {va v : Value} {Q : Unit → Shared → Prop} (hx : okT x = true) (hi : okI its = true) (I : Si w A env sc F ML M Hs vs wd s 11) (e1 : Hs[k]? = some (a, l)) (e2 : wd[k]? = some its) (ra : Vr w.params s.heap M Hs ML va (.self l)) (r : Vr w.params s.heap M Hs ML v (.dat (.str x)))
    (hQ : ∀ Hs' M' h' tk, Go [] Hs F M s.heap Hs' M' h' → WInv w M' Hs' (wd.set k (delI its x)) h' → Mt h' M' → Q () { s with heap := h', toks := tk }) : wpAny (model PG w) A (delItem va v) Q X s := by
  obtain ⟨b, dx, t, c, ll, rfl, d1, d2⟩ := self_at (s := s) ra (.inr ⟨_, rfl⟩)
  have Ia := inst_at d1 d2
  have K := I.wi.inK
  unfold delItem sequenceKey
  refine wpAny_holding (wpAny_bind (wpAny_bind (Ia.type.here ?_)))
  refine wpAny_bind ((anyM_none K (noSeq189 w)).here ?_)
  rw [if_pos (show (!false) = true from rfl)]
  exact wpAny_pure (wpAny_bind (special_fn K Ia (m_del w).find (m_del w).type (del_call hx hi I e1 e2 ra r fun v Hs' M' h' tk G W m _ => wpAny_pure (hQ Hs' M' h' tk G W m))))
theorem setItem_hdr {k : Nat} {a l : Addr} {its : List (Str × Str)} {i v : Value} {Q : Unit → Shared → Prop} (I : Si w A env sc F ML M Hs vs wd s n) (e1 : Hs[k]? = some (a, l)) (e2 : wd[k]? = some its)
    (h : wpAny (model PG w) A (call (.ref 104) [.ref a, i, v]) (fun _ s' => Q () s') X s) : wpAny (model PG w) A (setItem (.ref a) i v) Q X s := by
  obtain ⟨⟨dx, t, c, d1, d2⟩, _⟩ := I.wi.hd k _ its e1 e2
  have Ia := inst_at (Hid.of d1) (Hid.of d2)
  have K := I.wi.inK
  unfold setItem sequenceKey
  refine wpAny_holding (wpAny_bind (wpAny_bind (Ia.type.here ?_)))
  refine wpAny_bind ((anyM_none K (noSeq189 w)).here ?_)
  rw [if_pos (show (!false) = true from rfl)]
  exact wpAny_pure (wpAny_bind (special_fn K Ia (m_set w).find (m_set w).type (wpAny_mono h (fun _ _ z => wpAny_pure z) fun _ _ z => z)))
end
section
variable {w : World} {A : Around} {env : Env} {sc sc' : Scope} {F F' ML M M' M₁ T : List Addr} {Hs Hs' Hs₁ : HL} {vs vs' vs₁ vf : Vars} {wd wd' wd₁ wd₂ : Wd} {s : Shared} {n m : Nat} {h h' h₁ : Heap} {pv : PV} {X : Value → Shared → Prop}
theorem hdr_append {k : Nat} {a l : Addr} {its : List (Str × Str)} {p : Str × Str} {v : Value} {Q : Value → Shared → Prop} (hz : its.length ≤ small) (I : Si w A env sc F ML M Hs vs wd s n) (e1 : Hs[k]? = some (a, l)) (e2 : wd[k]? = some its) (r : Rd s.heap M v (pairD p))
    (hQ : ∀ h', Go [] Hs F M s.heap Hs M h' → WInv w M Hs (wd.set k (its ++ [p])) h' → Mt h' M → Q .none { s with heap := h' }) : wpAny (model PG w) A (call (.builtin "list.append") [.ref l, v]) Q X s := by
  obtain ⟨_, ⟨ws, z, as, d3, d4⟩⟩ := I.wi.hd k _ its e1 e2
  have sm : small = 1000 := rfl
  have szl : sizeLine = 2 ^ 24 := rfl
  have sz := RdA.len ⟨as, d4⟩
  rw [Array.length_toList, List.length_map] at sz
  refine call_meets PySem.F.slot_list_append ⟨_, d3, rfl⟩ PySem.F.entry_list_append (PySem.F.args_list_append_2 _ _) (list_append l ws z v (by omega)) ⟨d3, ?_⟩
  obtain ⟨n', hd'⟩ := Obj.data_mapSeq (o := ⟨.type "list", none, .seq ws z, #[]⟩) rfl (fun x => x.push v)
  have hup : (s.heap.update l (Obj.mapSeq fun x => x.push v)).get? l = some ⟨.type "list", none, .seq (ws.push v) n', #[]⟩ := by
    rw [Heap.get?_update_self _ d3 (by simp [Obj.mapSeq, Obj.isFreed])]
    simp only [Obj.mapSeq] at hd' ⊢
    rw [hd']
  obtain ⟨G, W, m⟩ := hdr_upd (its' := its ++ [p]) I e1 e2 hup (Heap.SameBut.update ..) (by
    rw [Array.toList_push, List.map_append]
    exact RdA.app ⟨as, d4⟩ (.cons r .nil))
  exact hQ _ G W m
theorem append_stmt {oe te : Expr} {ap pos q : Pos} {k : Nat} {a l : Addr} {its : List (Str × Str)} {p : Str × Str} {Q : Flow → Shared → Prop} (hz : its.length ≤ small) (hline : (plainO oe && ap.endLine == pos.line) = true) (ho : ∀ wd, (evN lf0 m).ev sc oe vs wd (.obj l) wd) (ht : ∀ wd, EvsOf (fun e wd => (evN lf0 m).ev sc e vs wd) [te] wd [.dat (pairD p)] wd)
    (I : Si w A env sc F ML M Hs vs wd s (m + 1 + 1)) (e1 : Hs[k]? = some (a, l)) (e2 : wd[k]? = some its) (hQ : PostX w A env sc F ML M Hs s (m + 1 + 1) Q .next vs (wd.set k (its ++ [p]))) :
    wpAny (model PG w) A (exec (.Expr (.Call (.Attribute oe "append" ap) [te] [] pos) q) env) Q X s := by
  obtain ⟨hE, hT, hX⟩ := evN_snd (leaf0 w) m
  rw [Bool.and_eq_true] at hline
  have I₀ := I.less (Nat.le_succ _)
  refine wpAny_Expr_any ?_ (by unfold interactive; rw [I.ek.kind]; rfl) rfl
  refine meth_eval hline.1 hline.2 (by show 1 < 30; decide) (plain_args (ht wd)) (hE I₀ (ho wd) fun ov Hs₁ M₁ h₁ tk₁ G₁ W₁ m₁ r₁ => ?_)
  obtain rfl := r₁.shape
  have I₁ := I₀.go G₁ W₁ m₁ tk₁
  obtain ⟨_, ⟨ws, z, as, d3, d4⟩⟩ := I₁.wi.hd k _ its (G₁.hsGet _ _ e1) e2
  refine getMethod_builtin (T := "list") ⟨_, d3, rfl⟩ PySem.F.plainAttrs_list PySem.F.slot_list_append PySem.F.type_list_append (fun a e => by cases e; exact ⟨_, d3, rfl⟩) ?_
  refine call_snd (.inl fun _ e => nomatch e) hE I₁ (ht wd) fun vals Hs₂ M₂ g₂ tk₂ G₂ W₂ m₂ r₂ => ?_
  have I₂ := I₁.go G₂ W₂ m₂ tk₂
  replace r₂ := r₂.one; obtain ⟨_, rfl, r₂⟩ := r₂
  refine hdr_append hz I₂ (G₂.hsGet _ _ (G₁.hsGet _ _ e1)) e2 r₂.rd fun h₃ G₃ W₃ m₃ => ?_
  have G := (G₁.trans' G₂).trans' G₃
  exact hQ .next _ _ ML h₃ tk₂ (G.weaken fun _ x => nomatch x) (fun _ x => .inl x) (I.go G W₃ m₃ tk₂) rfl
theorem set_shape {de ie oe te : Expr} {p q ap pos q' : Pos} {k : Nat} {a l : Addr} {its : List (Str × Str)} {x y : Str} {Q : Flow → Shared → Prop} (hx : okT x = true) (hi : okI its = true) (hd : ∀ wd, (evN lf0 10).ev sc de vs wd (.self l) wd) (hie : ∀ wd, (evN lf0 10).ev sc ie vs wd (.dat (.str x)) wd)
    (hline : (plainO oe && ap.endLine == pos.line) = true) (ho : ∀ wd, (evN lf0 10).ev sc oe vs wd (.obj l) wd) (ht : ∀ wd, EvsOf (fun e wd => (evN lf0 10).ev sc e vs wd) [te] wd [.dat (pairD (x, y))] wd)
    (I : Si w A env sc F ML M Hs vs wd s (10 + 1 + 1)) (e1 : Hs[k]? = some (a, l)) (e2 : wd[k]? = some its) (hQ : PostX w A env sc F ML M Hs s (10 + 1 + 1) Q .next vs (wd.set k (hSet its x y))) :
    wpAny (model PG w) A (execs [.Delete [.Subscript de ie p] q, .Expr (.Call (.Attribute oe "append" ap) [te] [] pos) q'] env) Q X s := by
  obtain ⟨hE, hT, hX⟩ := evN_snd (leaf0 w) 10
  obtain ⟨hz, hn⟩ := okI_names hi
  have sm : small = 1000 := rfl
  have hz' : (delI its x).length ≤ its.length := List.length_filter_le _ _
  have I₀ : Si w A env sc F ML M Hs vs wd s 11 := I.less (Nat.le_succ _)
  refine execs_one (wpAny_Delete (wpAny_deleteEach_cons (wpAny_delete_Subscript (hE I₀ (hd wd) fun dv Hs₁ M₁ h₁ tk₁ G₁ W₁ m₁ r₁ => ?_))))
  have I₁ := I₀.go G₁ W₁ m₁ tk₁
  refine hE I₁ (hie wd) fun iv Hs₂ M₂ h₂ tk₂ G₂ W₂ m₂ r₂ => ?_
  have I₂ := I₁.go G₂ W₂ m₂ tk₂
  have e1₂ := G₂.hsGet _ _ (G₁.hsGet _ _ e1)
  refine delItem_hdr hx hi I₂ e1₂ e2 (I₁.vr G₂ r₁) r₂ fun Hs₃ M₃ h₃ tk₃ G₃ W₃ m₃ => ?_
  have I₃ := I₂.go G₃ W₃ m₃ tk₃
  have G := (G₁.trans' G₂).trans' G₃
  refine wpAny_deleteEach_nil ?_
  have hk := (List.getElem?_eq_some_iff.mp e2).1
  refine execs_one (append_stmt (its := delI its x) (by omega) hline ho ht (I₃.up I) (G₃.hsGet _ _ e1₂) (by rw [List.getElem?_set_self hk]) ?_)
  intro f Hs₄ M₄ ML₄ h₄ tk₄ G₄ hm₄ I₄ fr
  have : f = .next := fr
  subst this
  refine wpAny_execs_nil ?_
  rw [List.set_set] at I₄
  exact hQ .next Hs₄ M₄ ML₄ h₄ tk₄ ((G.weaken fun _ x => nomatch x).trans' G₄) (fun z x => (hm₄ z x).elim .inl fun h => .inr (Nat.le_trans G.size h)) I₄ rfl
theorem set_body {k : Nat} {a l : Addr} {its : List (Str × Str)} {x y : Str} {Q : Flow → Shared → Prop} (hx : okT x = true) (hy : okT y = true) (hi : okI its = true) (e1 : Hs[k]? = some (a, l)) (e2 : wd[k]? = some its)
    (I : Si w A env (mthD "__setitem__").2.2 F ML M Hs ((mthD "__setitem__").1.zip [.self l, .dat (.str x), .dat (.str y)]) wd s (10 + 1 + 1))
    (hQ : PostX w A env (mthD "__setitem__").2.2 F ML M Hs s (10 + 1 + 1) Q .next ((mthD "__setitem__").1.zip [.self l, .dat (.str x), .dat (.str y)]) (wd.set k (hSet its x y))) :
    wpAny (model PG w) A (execs (mthD "__setitem__").2.1 env) Q X s := by
  generalize hb : (mthD "__setitem__") = d at *
  conv at hb => 
    lhs
    reduce
  subst hb
  refine set_shape hx hi (fun wd => r_name rfl rfl) (fun wd => r_name rfl rfl) rfl (fun wd => r_attrS rfl (r_name rfl rfl)) (fun wd => r_one rfl (r_tuple (r_two rfl rfl (r_kw rfl (r_name rfl rfl) (r_one rfl (r_name rfl rfl)) (cst_ev (.inr ⟨_, rfl⟩) hx)) (r_kw rfl (r_name rfl rfl) (r_one rfl (r_name rfl rfl)) (cst_ev (.inr ⟨_, rfl⟩) hy))) rfl)) I e1 e2 hQ
/-- «self[x] = y» -/
theorem set_call {k : Nat} {a l : Addr} {its : List (Str × Str)} {x y : Str} {v u : Value} {Q : Value → Shared → Prop} (hx : okT x = true) (hy : okT y = true) (hi : okI its = true) (I : Si w A env sc F ML M Hs vs wd s 13) (e1 : Hs[k]? = some (a, l)) (e2 : wd[k]? = some its) (r : Vr w.params s.heap M Hs ML v (.dat (.str x))) (r' : Vr w.params s.heap M Hs ML u (.dat (.str y)))
    (hQ : PostE w F ML M Hs s Q (.dat .none) (wd.set k (hSet its x y))) : wpAny (model PG w) A (call (.ref 104) [.ref a, v, u]) Q X s := by
  obtain ⟨_, _, rs⟩ := freeze I e1 e2
  exact fn_callG (args := ⟨[.ref a, v, u], []⟩) (fl := .next) (m_set w).g (b_set w _ _ _) (fun {A env F ML M s Q X} I hQ => set_body hx hy hi e1 e2 I hQ) I (.cons (.inl rs) (.cons r (.cons r' .nil))) rfl rfl rfl hQ
end
section
variable {w : World} {A : Around} {env : Env} {sc sc' : Scope} {F F' ML M M' ML' T : List Addr} {Hs Hs' : HL} {vs vs' : Vars} {wd wd' : Wd} {s : Shared} {n : Nat} {h h' : Heap} {pv : PV} {X : Value → Shared → Prop} {E : Ev} {D : Addr} {ds : List PyData} {R : Result → Shared → Prop} {fl : Fl} {Q : Flow → Shared → Prop}
theorem append_list {x : Str} {l : Addr} {v : Value} {as : Array Value} {k : Nat} {xs : List PyData} {d : PyData} {mm : Str → Option Value} {Q : Value → Shared → Prop} (I₂ : Si w A env sc F ML M Hs vs wd s n) (e3 : l ∈ ML) (e4 : s.heap.get? l = some ⟨.type "list", none, .seq as k, #[]⟩) (e5 : RdA s.heap M as.toList xs) (hall : (vs.all fun p => p.1 == x || notMut p.2) = true)
    (hns : s.heap.Ns env.locals mm) (a : VarAt env s.heap mm x (.ref l)) (ry : Vr w.params s.heap M Hs ML v (.dat d)) (h1 : xs.length ≤ small)
    (hQ : ∀ g₃, Go [l] Hs F M s.heap Hs M g₃ → Si w A env sc F ML M Hs ((x, .mut (xs ++ [d])) :: vs) wd { s with heap := g₃, toks := s.toks } n → Q .none { s with heap := g₃, toks := s.toks }) : wpAny (model PG w) A (call (.builtin "list.append") [.ref l, v]) Q X s := by
  have sz1 := e5.len
  rw [Array.length_toList] at sz1
  refine call_meets PySem.F.slot_list_append ⟨_, e4, rfl⟩ PySem.F.entry_list_append (PySem.F.args_list_append_2 _ _) (list_append l as k v (by rw [sz1]; exact Nat.le_trans h1 (by decide))) ⟨e4, ?_⟩
  have sb : Heap.SameBut l s.heap (s.heap.update l (Obj.mapSeq fun x => x.push v)) := Heap.SameBut.update ..
  have p := sb_pv sb
  have hid := p.hid (M := M) (M' := M) (one_all (I₂.ei.ml.m l e3)) fun _ x => .inl x
  have hup : ∃ k', (s.heap.update l (Obj.mapSeq fun x => x.push v)).get? l = some { cls := .type "list", data := .seq (as.push v) k' } := by
    rw [Heap.get?_update_self _ e4 (by simp [Obj.mapSeq, Obj.isFreed])]
    exact ⟨_, rfl⟩
  obtain ⟨k', hup⟩ := hup
  refine hQ _ (p.go (fun _ x => x) (fun _ x => .inl x) _ _ _ fun _ x => x) (I₂.fill e3 p sb.1 hall hns a hup ?_)
  rw [Array.toList_push]
  exact (e5.hid hid).app (RdA.cons (ry.rd.hid hid) .nil)
theorem append_mut {x : Str} {e : Expr} {px ap pos q : Pos} {xs : List PyData} {d : PyData} (hE : EvS w n E.ev) (I : Si w A env sc F ML M Hs vs wd s (n + 1)) (hn : okName x = true) (hline : (ap.endLine == pos.line) = true) (hall : (vs.all fun p => p.1 == x || notMut p.2) = true)
    (hx : vs.lookup x = some (.mut xs)) (he : EvsOf (fun e wd => E.ev sc e vs wd) [e] wd [.dat d] wd') (h1 : xs.length ≤ small) (hQ : PostX w A env sc F ML M Hs s (n + 1) Q .next ((x, .mut (xs ++ [d])) :: vs) wd') :
    wpAny (model PG w) A (exec (.Expr (.Call (.Attribute (.Name x px) "append" ap) [e] [] pos) q) env) Q X s := by
  have I₀ := I.less (Nat.le_succ n)
  obtain ⟨m₀, hn₀, hv₀⟩ := I.ei.ns
  obtain ⟨ov, r₁, a₀⟩ := hv₀ x _ hx
  obtain ⟨l, as', k, bs, rfl, e3, e4, e5⟩ := r₁.shape
  refine wpAny_Expr_any ?_ (by unfold interactive; rw [I.ek.kind]; rfl) rfl
  refine meth_eval rfl hline (by show 1 < 30; decide) (plain_args he) (name_at I.ek hn hn₀ a₀ ?_)
  refine getMethod_builtin (T := "list") ⟨_, e4, rfl⟩ PySem.F.plainAttrs_list PySem.F.slot_list_append PySem.F.type_list_append (fun a e => by cases e; exact ⟨_, e4, rfl⟩) ?_
  refine call_snd (.inl fun _ e => nomatch e) hE I₀ he fun vals Hs₂ M₂ g₂ tk₂ G₂ W₂ m₂ r₂ => ?_
  replace r₂ := r₂.one; obtain ⟨_, rfl, ry⟩ := r₂
  exact append_list (I₀.go G₂ W₂ m₂ tk₂) e3 (G₂.keep l _ (fun x => no_mem x) (I.ei.ml.hl l e3) (I.ei.ml.fr l e3) e4) (RdA.hid ⟨bs, e5⟩ (G₂.hid I.ei.in2 fun _ x => nomatch x)) hall (ns_go G₂ hn₀ (fun x => no_mem x) I.ei.locH)
    (a₀.go (Hs' := Hs₂) G₂ fun z c hc => ⟨(fun x => nomatch x), (I.ei.cells z c hc).2.1⟩) ry h1 fun g₃ G₃ I₃ => hQ .next Hs₂ M₂ ML _ tk₂ ((G₂.weaken fun _ x => nomatch x).trans' (G₃.weaken (one_all (List.mem_append_right _ e3)))) (fun _ x => .inl x) (I₃.up I) rfl
end
theorem m_add (w : World) : MthOk w 186 "add_header" where
  body := by kernel_rfl!
  scope := by kernel_rfl!
  clo := by kernel_rfl!
  glo := by kernel_rfl!
  code := by kernel_rfl!
  keep := by kernel_rfl!
  find := by kernel_rfl!
  type := by kernel_rfl!
  kinds := by kernel_rfl!
  nodup := by decide +kernel
  sck := by kernel_rfl!
theorem b_add (w : World) (S : Setting) (a b c : Value) (D : Addr) : (fdIn (KF w) 186).bind (fun fd => (peek1 (KF w) S (bindArgs fd ⟨[a, b, c], []⟩)).map fun r => (r.1, r.2 D)) = some (⟨.type "dict", none, .dict #[] 0, #[]⟩, some ((mthD "add_header").1.zip [a, b, c, .ref D])) := by kernel_rfl!

theorem wp_peek1 {α : Type} {K : Frag} {M : Model} {A : Around} {E : Value → Shared → Prop} {Q : α → Shared → Prop} {s : Shared} {o : Obj} {r : α} (X : K.In s.heap) (q : Q r { s with heap := s.heap.push o }) :
    ∀ (t : Sem α) (g : Addr → Option α), peek1 K ⟨M.prog, M.w.params⟩ t = some (o, g) → g s.heap.objs.size = some r → wpAny M A t Q E s := by
  intro t
  induction t with
  | rule _ k ih => intro g e hg Γ p hΓ; exact ih () g e hg Γ p hΓ
  | point _ k ih => intro g e hg Γ p hΓ; exact ih () g e hg Γ p hΓ
  | ask k ih => intro g e hg Γ p hΓ; exact ih _ g e hg Γ p hΓ
  | load a _ k ih =>
    intro g e hg Γ p hΓ
    simp only [peek1] at e
    split at e
    · rename_i ob ho; exact ⟨ob, X _ _ ho, ih ob g e hg Γ p hΓ⟩
    · cases e
  | alloc ob k _ =>
    intro g e hg
    have e : some (ob, fun D => peek K ⟨M.prog, M.w.params⟩ (k D)) = some (o, g) := e
    obtain ⟨e1, e2⟩ := Prod.mk.inj (Option.some.inj e)
    subst e1
    subst e2
    have X' : K.In (s.heap.push ob) := X.keeps fun b x hb => Heap.get?_push_of_some _ hb
    show wpAny M A (alloc ob >>= k) Q E s
    refine wpAny_bind (wpAny_alloc ?_)
    exact (Looks.of_peek (M := M) (h := s.heap.push ob) X' hg).here (s := { s with heap := s.heap.push ob }) q
  | _ => intro g e; cases e
theorem from_peek1 {w : World} {a : Addr} {s : Shared} {args : Args} {o : Obj} {binds : List (Str × Value)} (K : (KF w).In s.heap) (h : ∀ S, (fdIn (KF w) a).bind (fun fd => (peek1 (KF w) S (bindArgs fd args)).map fun r => (r.1, r.2 s.heap.objs.size)) = some (o, some binds)) :
    ∀ fd, fdIn (KF w) a = some fd → BindsFrom s { s with heap := s.heap.push o } fd args binds := fun fd e M A E Q q => by
  have := h ⟨M.prog, M.w.params⟩
  rw [e, Option.bind_some, Option.map_eq_some_iff] at this
  obtain ⟨⟨o', g⟩, h1, h2⟩ := this
  obtain ⟨h2, h3⟩ := Prod.mk.inj h2
  simp only at h2 h3
  subst h2
  exact wp_peek1 K q _ g h1 h3

theorem join_ev {y : Str} {wd : Wd} (hy : okT y = true) : lf0.mv (.dat (.str ⟨#[59, 32]⟩)) ⟨#[106, 111, 105, 110]⟩ [.mut [.str y]] wd (.dat (.str y)) wd := Meth0.join rfl rfl hy
section
variable {w : World} {A : Around} {env : Env} {sc sc' : Scope} {F F' ML M M' ML' T : List Addr} {Hs Hs' : HL} {vs vs' : Vars} {wd wd' : Wd} {s : Shared} {n m : Nat} {h h' : Heap} {pv : PV} {X : Value → Shared → Prop} {E : Ev} {D : Addr} {ds : List PyData} {R : Result → Shared → Prop} {fl : Fl} {Q : Flow → Shared → Prop}
/-- a loop over an empty dict's items -/
theorem for_none {t : Expr} {x : Str} {px ap pos q : Pos} {b : List Stmt} (I : Si w A env sc F ML M Hs vs wd s n) (hn : okName x = true) (hline : (ap.endLine == pos.line) = true) (hx : vs.lookup x = some .emp)
    (hQ : PostX w A env sc F ML M Hs s n Q .next vs wd) : wpAny (model PG w) A (exec (.For t (.Call (.Attribute (.Name x px) "items" ap) [] [] pos) b [] q) env) Q X s := by
  obtain ⟨m₀, hn₀, hv₀⟩ := I.ei.ns
  obtain ⟨ov, r₁, a₀⟩ := hv₀ x _ hx
  obtain ⟨d, ep, rfl, e, hdS⟩ := r₁.shape
  have hd : s.heap.get? d = some ⟨.type "dict", none, .dict #[] ep, #[]⟩ := Hid.of e
  have hm : s.heap.DictAt (PySem.strKind PG w) d [] ep := ⟨_, _, hd, ⟨rfl, rfl, rfl⟩, rfl, (fun _ x => by simp at x), .nil, .nil⟩
  refine wpAny_For (wpAny_Call_items (knd := PySem.strKind PG w) (kvs := []) hdS hm.dictOf rfl hline (fun Q' q => name_at I.ek hn hn₀ a₀ q) ?_) fun _ => rfl
  refine wpAny_pyIter_items (knd := PySem.strKind PG w) (d := d) (kvs := []) (ep := ep) ⟨_, Heap.get?_push_size _ rfl, rfl, rfl⟩ (hm.push _) ?_
  refine codeAny_forLoop_any (fun _ s' => s' = { s with heap := (s.heap.push { cls := .type "dict_items", data := .fields #[.ref d] }).push { cls := .type "dict_itemiterator", data := .fields #[.none, .bool false, .ref d, .int 0 0, .int (([] : List (Str × Value)).length) 0, .int ep 0, .none, .none] } }) ?_ 0 rfl
  rintro _ _ rfl
  have k := (Kp.push s.heap { cls := .type "dict_items", data := .fields #[.ref d] }).trans (Kp.push _ { cls := .type "dict_itemiterator", data := .fields #[.none, .bool false, .ref d, .int 0 0, .int (([] : List (Str × Value)).length) 0, .int ep 0, .none, .none] })
  refine wpAny_sz (wpAny_pyNext_items_end (knd := PySem.strKind PG w) (i := 0) (kvs := []) (ok := .none) (ov := .none) I.ai.handled (Heap.get?_push_size _ rfl) ((hm.push _).push _) rfl fun h' he hz => ?_)
  have k' : Kp s.heap h' := by
    refine ⟨fun a o e => he a o (fun h => ?_) (k.get a o e), Nat.le_trans k.size hz⟩
    have := Heap.lt_size e
    rw [h, Heap.size_push] at this
    exact absurd this (Nat.not_lt.mpr (Nat.le_succ _))
  exact wpAny_execs_nil (hQ .next Hs M ML h' s.toks (Go.kp k' _ _ _ _) (fun _ x => .inl x) (I.go (Go.kp k' _ _ _ _) (I.wi.kp k') (I.mt.kp k') s.toks) rfl)
theorem all_but {xp xv : Str} {y : Str} (hall : (vs.all fun p => notMut p.2) = true) (hvx : xv ≠ xp) : (((xv, PV.dat (.str y)) :: (xp, .mut []) :: vs).all fun p => p.1 == xp || notMut p.2) = true := by
  rw [List.all_eq_true] at hall ⊢
  intro p hp
  rcases List.mem_cons.mp hp with rfl | hp
  · simp [notMut]
  · rcases List.mem_cons.mp hp with rfl | hp
    · simp
    · rw [hall p hp, Bool.or_true]
theorem add_shape {te te3 oe : Expr} {st2 : Stmt} {t : Expr} {b : List Stmt} {xp xv xq : Str} {z1 q1 q2 q3 q4 q5 q6 q7 q8 q9 q10 q11 ap ap2 ap3 pos pos2 pos3 : Pos} {ck} {l a : Addr} {k : Nat} {its : List (Str × Str)} {x y : Str} (hz : its.length ≤ small)
    (hxp : (okName xp && ownKind sc xp) = true) (hxv : okName xv = true) (hxq : okName xq = true) (hl1 : (ap.endLine == pos.line) = true) (hl2 : (ap2.endLine == pos2.line) = true) (hl3 : (plainO oe && ap3.endLine == pos3.line) = true)
    (hv : vs.lookup xv = some (.dat (.str y))) (hvx : xv ≠ xp) (hall : (vs.all fun p => notMut p.2) = true)
    (h2 : ∀ wd, ExStep lf0 (evN lf0 10) sc st2 ((xp, .mut []) :: vs) wd .next ((xv, .dat (.str y)) :: (xp, .mut []) :: vs) wd)
    (ht : ∀ wd, EvsOf (fun e wd => (evN lf0 10).ev sc e ((xv, .dat (.str y)) :: (xp, .mut []) :: vs) wd) [te] wd [.dat (.str y)] wd)
    (hq : ((xp, PV.mut [.str y]) :: (xv, .dat (.str y)) :: (xp, .mut []) :: vs).lookup xq = some .emp)
    (ho : ∀ wd, (evN lf0 10).ev sc oe ((xp, .mut [.str y]) :: (xv, .dat (.str y)) :: (xp, .mut []) :: vs) wd (.obj l) wd) (ht3 : ∀ wd, EvsOf (fun e wd => (evN lf0 10).ev sc e ((xp, .mut [.str y]) :: (xv, .dat (.str y)) :: (xp, .mut []) :: vs) wd) [te3] wd [.dat (pairD (x, y))] wd)
    (I : Si w A env sc F ML M Hs vs wd s (10 + 1 + 1)) (e1' : Hs[k]? = some (a, l)) (e2 : wd[k]? = some its) (hQ : PostX w A env sc F ML M Hs s (10 + 1 + 1) Q .next ((xp, .mut [.str y]) :: (xv, .dat (.str y)) :: (xp, .mut []) :: vs) (wd.set k (its ++ [(x, y)]))) :
    wpAny (model PG w) A (execs [.Assign [.Name xp q1] (.List [] z1) q2, .If (.Compare (.Name xv q3) [.IsNot] [.Constant .none ck q4] q5) [st2, .Expr (.Call (.Attribute (.Name xp q6) "append" ap) [te] [] pos) q7] [] q8,
      .For t (.Call (.Attribute (.Name xq q9) "items" ap2) [] [] pos2) b [] q10, .Expr (.Call (.Attribute oe "append" ap3) [te3] [] pos3) q11] env) Q X s := by
  obtain ⟨hE, hT, hX⟩ := evN_snd (leaf0 w) 10
  -- the parts
  refine execs_one (assign_mut I (and2 hxp).2 fun f Hs₁ M₁ ML₁ h₁ tk₁ G₁ hm₁ I₁ fr₁ => ?_)
  cases (show f = .next from fr₁)
  have L : LoopSt w A env sc F ML (Own env sc ++ ML) Hs M s.heap s (10 + 1 + 1) Hs₁ M₁ ML₁ h₁ tk₁ _ _ := ⟨G₁, hm₁, I₁⟩
  have e1' : Hs₁[k]? = some (a, l) := G₁.hsGet _ _ e1'
  clear I I₁ G₁ hm₁ fr₁
  have hv₁ : ((xp, PV.mut []) :: vs).lookup xv = some (.dat (.str y)) := by
    rw [lookup_cons', if_neg hvx]; exact hv
  refine execs_one (wpAny_If (wpAny_isTrue_Compare1 (name_snd L.I hxv hv₁ fun v Hs₂ M₂ h₂ tk₂ G₂ W₂ m₂ r₂ => ?_) rfl))
  obtain ⟨t, rfl⟩ := r₂.rd.str_inv
  replace L := L.go G₂ W₂ m₂ tk₂
  replace e1' := G₂.hsGet _ _ e1'
  clear G₂ W₂ m₂ r₂
  refine wpAny_Constant_none (wpAny_isNot_other rfl (fun e => nomatch e) (wpAny_truthy_bool ?_))
  rw [if_pos rfl]
  refine execs_one (exStep_snd (leaf0 w 11 (by decide)) hE hT hX L.I (h2 wd) fun f Hs₃ M₃ ML₃ h₃ tk₃ G₃ hm₃ I₃ fr₃ => ?_)
  cases (show f = .next from fr₃)
  replace L := L.suite (fun _ x => x) G₃ hm₃ I₃
  replace e1' := G₃.hsGet _ _ e1'
  clear G₃ hm₃ I₃ fr₃
  refine execs_one (append_mut hE L.I (and2 hxp).1 hl1 (all_but hall hvx) (xs := []) (d := .str y) ?_ (ht wd) (Nat.zero_le _) fun f Hs₄ M₄ ML₄ h₄ tk₄ G₄ hm₄ I₄ fr₄ => ?_)
  · rw [lookup_cons', if_neg (fun e => hvx e.symm), lookup_cons', if_pos rfl]
  cases (show f = .next from fr₄)
  replace L := L.suite (fun _ x => x) G₄ hm₄ I₄
  replace e1' := G₄.hsGet _ _ e1'
  clear G₄ hm₄ I₄ fr₄
  refine wpAny_execs_nil ?_
  refine execs_one (for_none L.I hxq hl2 hq fun f Hs₅ M₅ ML₅ h₅ tk₅ G₅ hm₅ I₅ fr₅ => ?_)
  cases (show f = .next from fr₅)
  replace L := L.suite (fun _ x => x) G₅ hm₅ I₅
  replace e1' := G₅.hsGet _ _ e1'
  clear G₅ hm₅ I₅ fr₅
  refine execs_one (append_stmt hz hl3 ho ht3 L.I e1' e2 fun f Hs₆ M₆ ML₆ h₆ tk₆ G₆ hm₆ I₆ fr₆ => ?_)
  cases (show f = .next from fr₆)
  replace L := L.suite (fun _ x => x) G₆ hm₆ I₆
  exact wpAny_execs_nil (hQ .next Hs₆ M₆ ML₆ h₆ tk₆ L.G L.ml I₆ rfl)
theorem add_body {k : Nat} {a l : Addr} {its : List (Str × Str)} {x y : Str} (hx : okT x = true) (hy : okT y = true) (hi : okI its = true) (e1 : Hs[k]? = some (a, l)) (e2 : wd[k]? = some its)
    (I : Si w A env (mthD "add_header").2.2 F ML M Hs ((mthD "add_header").1.zip [.self l, .dat (.str x), .dat (.str y), .emp]) wd s (10 + 1 + 1))
    (hQ : PostX w A env (mthD "add_header").2.2 F ML M Hs s (10 + 1 + 1) Q .next ((⟨#[112, 97, 114, 116, 115]⟩, .mut [.str y]) :: (⟨#[95, 118, 97, 108, 117, 101]⟩, .dat (.str y)) :: (⟨#[112, 97, 114, 116, 115]⟩, .mut []) :: (mthD "add_header").1.zip [.self l, .dat (.str x), .dat (.str y), .emp]) (wd.set k (its ++ [(x, y)]))) :
    wpAny (model PG w) A (execs (mthD "add_header").2.1 env) Q X s := by
  generalize hb : (mthD "add_header") = d at *
  conv at hb => 
    lhs
    reduce
  subst hb
  obtain ⟨hz, hn⟩ := okI_names hi
  have sm : small = 1000 := rfl
  refine add_shape (x := x) (y := y) (by omega) rfl rfl rfl rfl rfl rfl rfl (by decide) rfl (fun wd => s_name rfl (r_kw rfl (r_name rfl rfl) (r_one rfl (r_name rfl rfl)) (cst_ev (.inr ⟨_, rfl⟩) hy)) rfl) (fun wd => r_one rfl (r_name rfl rfl)) rfl (fun wd => r_attrS rfl (r_name rfl rfl))
    (fun wd => r_one rfl (r_tuple (r_two rfl rfl (r_kw rfl (r_name rfl rfl) (r_one rfl (r_name rfl rfl)) (cst_ev (.inr ⟨_, rfl⟩) hx)) (r_meth rfl (r_const rfl) (r_one rfl (r_name rfl rfl)) (join_ev hy))) rfl)) I e1 e2 hQ
end
theorem m_init (w : World) : MthOk w 83 "__init__" where
  body := by kernel_rfl!
  scope := by kernel_rfl!
  clo := by kernel_rfl!
  glo := by kernel_rfl!
  code := by kernel_rfl!
  keep := by kernel_rfl!
  find := by kernel_rfl!
  type := by kernel_rfl!
  kinds := by kernel_rfl!
  nodup := by decide +kernel
  sck := by kernel_rfl!
theorem b_init (w : World) (a : Value) : BindsG w 83 ⟨[a], []⟩ ((mthD "__init__").1.zip [a, .none]) := bindsG_peek fun S => by kernel_rfl!
theorem makes189 (w : World) : makesIn (KF w) 189 = true := by kernel_rfl!
theorem sets189 (w : World) : findIn (KF w) (.ref 189) "__setattr__" = some (some (.builtin "object.__setattr__")) := by kernel_rfl!
theorem over189 (w : World) : plainOver (KF w) 189 = true := by kernel_rfl!
theorem taker189 (w : World) : takerIn (KF w) 189 "_headers" = some none := by kernel_rfl!
theorem dict189 (w : World) : (clsIn (KF w) 189).any (·.hasDict) = true := by kernel_rfl!
theorem ns_list (w : World) : nsIn (KF w) mainGlobals (Str.ofString "list") = some none := by kernel_rfl!
theorem boot_list : bootBuiltins (Str.ofString "list") = some (.type "list") := by decide +kernel

section
variable {prog : Program} {w : World} {A : Around} {K : Frag} {x C : Addr} {s : Shared} {R : Result → Shared → Prop}
/-- a store into an object's dict -/
theorem osa_raw {ox od od' : Obj} {dx : Addr} {name : Str} {tk : Tok} {v : Value} {es : List DictEntry} {n : Nat} (X : K.In s.heap)
    (I : InstAt s.heap x ox C (some od)) (hd : ox.dict = some dx) (hp : plainOver K C = true) (ht : takerIn K C name = some none) (hh : (clsIn K C).any (·.hasDict) = true)
    (hl : (lookIn name od).isSome = true)
    (e : Obj.putName name (PyData.keyHash w.params name) (.str name s.toks) v od = od') (e' : od'.data = .dict es.toArray n) (hz : es.length ≤ 1000)
    (h : ∀ h', h'.get? dx = some od' → Heap.SameBut dx s.heap h' → R (.ok (.ret .none)) { s with heap := h', toks := s.toks + 1 }) :
    codeAny (model prog w) A (.call (.builtin "object.__setattr__") ⟨[.ref x, .str name tk, v], []⟩) R s := by
  refine osa_open X I hp ht fun b => ?_
  obtain ⟨cd, hc, hd'⟩ := any_some hh
  obtain ⟨hx, hcl, hn, hdd⟩ := I
  obtain ⟨oc, odi, oda, osl⟩ := ox
  dsimp only at hcl hd hdd
  subst hcl hd
  have D : s.heap.get? dx = some od := hdd
  have D' : (s.heap.update dx (Obj.putName name (PyData.keyHash w.params name) (.str name s.toks) v)).get? dx = some od' := by
    rw [Heap.get?_update_self _ D (by rw [e]; obtain ⟨_, _, dd, _⟩ := od'; cases e'; rfl), e]
  have U : Heap.SameBut dx s.heap (s.heap.update dx (Obj.putName name (PyData.keyHash w.params name) (.str name s.toks) v)) := Heap.SameBut.update ..
  refine wpAny_bind (wpAny_pure (wpAny_bind (wpAny_bind (wpAny_loadPart hx (wpAny_bind ((looks_clsIn X hc).here ?_))))))
  rw [hd']
  refine wpAny_pure (a := some dx) (wpAny_bind (wpAny_pure (wpAny_bind ?_)))
  unfold nsSet
  refine wpAny_bind (wpAny_bind (wpAny_askSetting (wpAny_pure (wpAny_bind (wpAny_mkText (wpAny_bind (wpAny_loadPart D ?_)))))))
  unfold lookIn at hl
  split at hl
  · rename_i es₀ n₀ q
    rw [q]
    dsimp only
    have c : (!es₀.any (·.key.isStr name) && es₀.any (·.refKey)) = false := by
      rw [← Array.any_toList, ← Array.any_toList]
      split at hl
      · rename_i en he
        rw [List.any_eq_true.mpr ⟨en, List.mem_of_find?_eq_some he, List.find?_some he⟩]; rfl
      · split at hl
        · cases hl
        · rename_i z; rw [Bool.not_eq_true] at z; rw [z, Bool.and_false]
    rw [aRefKeyMayBeTheName_at, c]
    refine wpAny_updatePart D ?_
    refine wpAny_bind (wpAny_lookBehind D' (by rw [e']; exact pastItsLine_dict (by rw [List.size_toArray, sizeLine_eq]; omega)) ?_)
    exact wpAny_pure (h _ D' U)
  · cases hl
end
section
variable {w : World} {A : Around} {env : Env} {sc sc' : Scope} {F F' ML M M' ML' T : List Addr} {Hs Hs' : HL} {vs vs' : Vars} {wd wd' : Wd} {s : Shared} {n m : Nat} {h h' : Heap} {pv : PV} {X : Value → Shared → Prop} {E : Ev} {D : Addr} {ds : List PyData} {R : Result → Shared → Prop} {fl : Fl}
/-- «self._headers = v», the first time -/
theorem hd_store {x dx : Addr} {v : Value} {Q : Unit → Shared → Prop} (K : (KF w).In s.heap) (h1 : s.heap.get? x = some (instObj 189 dx)) (h2 : s.heap.get? dx = some emptyDict)
    (h : ∀ h' t n, h'.get? dx = some (dictOf [⟨PyData.keyHash w.params "_headers", .str "_headers" t, v⟩] n) → Heap.SameBut dx s.heap h' → Q () { s with heap := h', toks := s.toks + 2 }) : wpAny (model PG w) A (setAttr (.ref x) "_headers" v) Q X s := by
  have I : InstAt s.heap x (instObj 189 dx) 189 (some (dictOf [] 0)) := ⟨h1, rfl, rfl, h2⟩
  refine set_plain K I (sets189 w) (osa_raw (s := { s with toks := s.toks + 1 }) K I rfl (over189 w) (taker189 w) (dict189 w) rfl (putName_dict _ _ _ _ _ _) rfl (by show 1 ≤ 1000; decide) fun h' e sb => ?_)
  exact h h' _ _ e sb
theorem K_size (K : (KF w).In s.heap) : 55 < s.heap.objs.size := by
  obtain ⟨o, ho, _⟩ := Option.map_eq_some_iff.mp (show ((KF w).lookup 55).map (·.cls) = some (.type "re.Pattern") from re_cls55 w)
  exact Heap.lt_size (K _ _ ho)
theorem add_call {k : Nat} {a l : Addr} {its : List (Str × Str)} {x y : Str} {v u : Value} {Q : Value → Shared → Prop} (hx : okT x = true) (hy : okT y = true) (hi : okI its = true) (I : Si w A env sc F ML M Hs vs wd s 13) (e1 : Hs[k]? = some (a, l)) (e2 : wd[k]? = some its) (r : Vr w.params s.heap M Hs ML v (.dat (.str x))) (r' : Vr w.params s.heap M Hs ML u (.dat (.str y)))
    (hQ : PostE w F ML M Hs s Q (.dat .none) (wd.set k (its ++ [(x, y)]))) : wpAny (model PG w) A (call (.ref 186) [.ref a, v, u]) Q X s := by
  obtain ⟨_, _, rs⟩ := freeze I e1 e2
  have k₁ := Kp.push s.heap ⟨.type "dict", none, .dict #[] 0, #[]⟩
  have G₁ := Go.kp k₁ [] Hs F M
  have I₁ := I.go G₁ (I.wi.kp k₁) (I.mt.kp k₁) s.toks
  have hd : (Hid (s.heap.push ⟨.type "dict", none, .dict #[] 0, #[]⟩) M).get? s.heap.objs.size = some ⟨.type "dict", none, .dict #[] 0, #[]⟩ := Hid.get (Heap.get?_push_size _ rfl) I.mt.new
  have hne : (s.heap.objs.size == sysModules) = false := by
    have := K_size I.wi.inK
    rw [beq_eq_false_iff_ne]
    intro h
    rw [h] at this
    exact absurd this (by decide)
  exact fn_callS (args := ⟨[.ref a, v, u], []⟩) (s₀ := s) (s := { s with heap := s.heap.push ⟨.type "dict", none, .dict #[] 0, #[]⟩ }) (Rx := fun _ _ => True) (fl := .next) (fun _ _ _ _ _ => trivial) I.wi.inK (m_add w).g (from_peek1 I.wi.inK fun S => b_add w S _ _ _ _)
    (fun {A env F ML M s Q X} I hQ => add_body hx hy hi e1 e2 I fun f Hs' M' ML' h' tk G hm I' fr => hQ f Hs' M' ML' h' tk G hm I' fr fun _ _ => trivial) I₁ (.cons (I.vr G₁ (.inl rs)) (.cons (I.vr G₁ r) (.cons (I.vr G₁ r') (.cons (.inl (.emp hd hne)) .nil)))) rfl rfl rfl
    fun v Hs' M' h' tk G W m r _ => hQ v Hs' M' h' tk (G₁.trans' G) W m r
end
section
variable {w : World} {A : Around} {env : Env} {sc sc' : Scope} {F F' ML M M' ML' T : List Addr} {Hs Hs' : HL} {vs vs' : Vars} {wd wd' : Wd} {s : Shared} {n m : Nat} {h h' : Heap} {pv : PV} {X : Value → Shared → Prop} {E : Ev} {D : Addr} {ds : List PyData} {R : Result → Shared → Prop} {fl : Fl} {Q : Flow → Shared → Prop}
theorem Si.sub (I : Si w A env sc F ML M Hs vs wd s n) (e : ∀ x pv, vs'.lookup x = some pv → vs.lookup x = some pv) : Si w A env sc F ML M Hs vs' wd s n := by
  refine ⟨I.ek, I.ai, I.wi, ⟨?_, I.ei.locM, I.ei.locH, I.ei.cells, I.ei.cellOf, I.ei.inj, I.ei.ml, I.ei.mlx, I.ei.in2⟩, I.mt, I.fh⟩
  obtain ⟨m, hn, hv⟩ := I.ei.ns
  exact ⟨m, hn, fun x pv q => hv x pv (e x pv q)⟩
/-- a loop over an empty list -/
theorem for_nil {t : Expr} {x : Str} {px q : Pos} {b : List Stmt} {l : Addr} {z : Nat} (I : Si w A env sc F ML M Hs vs wd s n) (hn : okName x = true) (hx : vs.lookup x = some (.obj l)) (hl : s.heap.get? l = some ⟨.type "list", none, .seq #[] z, #[]⟩)
    (hQ : ∀ h', Kp s.heap h' → Q .next { s with heap := h' }) : wpAny (model PG w) A (exec (.For t (.Name x px) b [] q) env) Q X s := by
  obtain ⟨m₀, hn₀, hv₀⟩ := I.ei.ns
  obtain ⟨ov, r₁, a₀⟩ := hv₀ x _ hx
  obtain rfl := r₁.shape
  have hL : s.heap.IsList l #[] := ⟨_, hl, rfl, _, rfl⟩
  refine wpAny_For (name_at I.ek hn hn₀ a₀ (wpAny_pyIter_list hL ?_)) fun _ => rfl
  refine codeAny_forLoop_any (fun _ s' => s' = { s with heap := s.heap.push { cls := .type "list_iterator", data := .fields #[.ref l, .int 0 0] } }) ?_ 0 rfl
  rintro _ _ rfl
  have k := Kp.push s.heap { cls := .type "list_iterator", data := .fields #[.ref l, .int 0 0] }
  refine wpAny_sz (wpAny_pyNext_list_end (l := l) (i := 0) (items := #[]) I.ai.handled ⟨_, Heap.get?_push_size _ rfl, rfl, rfl⟩ (hL.push _) rfl fun h' he hz => ?_)
  have k' : Kp s.heap h' := by
    refine ⟨fun a o e => he a o (fun h => ?_) (k.get a o e), Nat.le_trans k.size hz⟩
    have := Heap.lt_size e
    rw [h] at this
    exact absurd this (Nat.lt_irrefl _)
  exact wpAny_execs_nil (hQ h' k')
theorem init_shape {hn : Str} {tt : Expr} {b rb : List Stmt} {ck ck2} {p1 p2 p3 p4 p5 p6 p7 p8 p9 p10 p11 p12 p13 p14 p15 p16 p17 p18 p19 p20 p21 p22 : Pos} {x dx : Addr} (ho : (okName hn && ownKind sc hn) = true) (ht : globV sc "type" = true) (hli : globV sc "list" = true) (hne : ("self" : Str) ≠ hn)
    (I : Si w A env sc F [] M Hs [("self", .obj x), (hn, .dat .none)] wd s n) (hx : s.heap.get? x = some (instObj 189 dx)) (hdx : s.heap.get? dx = some emptyDict) (ax : x ∉ Hs.map (·.2) ∧ x ∉ F ∧ x ∉ Own env sc) (ad : Apart env F [] Hs dx) (dM : dx ∈ M)
    (hQ : ∀ Hs' M' ML' h' tk, Go (Own env sc ++ [dx]) Hs F M s.heap Hs' M' h' → (∀ a ∈ ML', s.heap.objs.size ≤ a) → Si w A env sc F ML' M' Hs' [] wd { s with heap := h', toks := tk } n →
      (∃ l, s.heap.objs.size ≤ l ∧ l ∈ M' ∧ l ∉ Hs'.map (·.2) ∧ (∃ z, h'.get? l = some ⟨.type "list", none, .seq #[] z, #[]⟩) ∧ ∃ t z, h'.get? dx = some (dictOf [⟨PyData.keyHash w.params "_headers", .str "_headers" t, .ref l⟩] z)) → Q .next { s with heap := h', toks := tk }) :
    wpAny (model PG w) A (execs [.Assign [.Name hn p1] (.IfExp (.Compare (.Name hn p2) [.IsNot] [.Constant .none ck p3] p4) (.Name hn p5) (.List [] p6) p7) p8,
      .If (.Compare (.Call (.Name "type" p9) [.Name hn p10] [] p11) [.IsNot] [.Name "list" p12] p13) rb [] p14,
      .Assign [.Attribute (.Name "self" p15) "_headers" p16] (.Name hn p17) p18,
      .If (.Constant (.bool true) ck2 p19) [.For tt (.Name hn p20) b [] p21] [] p22] env) Q X s := by
  rw [Bool.and_eq_true] at ho
  have keepx : ∀ {S : List Addr} {Hs₁ Hs₂ M₁ M₂ h₁ h₂ o}, Go S Hs₁ F M₁ h₁ Hs₂ M₂ h₂ → x ∉ S → x ∉ Hs₁.map (·.2) → h₁.get? x = some o → h₂.get? x = some o := fun G a b e => G.keep _ _ a b ax.2.1 e
  have keepd : ∀ {S : List Addr} {Hs₁ Hs₂ M₁ M₂ h₁ h₂ o}, Go S Hs₁ F M₁ h₁ Hs₂ M₂ h₂ → dx ∉ S → dx ∉ Hs₁.map (·.2) → h₁.get? dx = some o → h₂.get? dx = some o := fun G a b e => G.keep _ _ a b ad.fr e
  have hnl : ([("self", PV.obj x), (hn, .dat .none)] : Vars).lookup hn = some (.dat .none) := by
    rw [lookup_cons', if_neg (fun e => hne e.symm), lookup_cons', if_pos rfl]
  have dOwn : dx ∉ Own env sc := fun h => by
    rcases own_inv h with h | ⟨y, _, hc⟩
    · exact ad.lc h
    · exact ad.ce y dx hc rfl
  -- headers
  refine execs_one (wpAny_Assign_Name (wpAny_IfExp (wpAny_isTrue_Compare1 (name_snd I ho.1 hnl fun v Hs₁ M₁ h₁ tk₁ G₁ W₁ m₁ r₁ => ?_) rfl)) rfl)
  obtain rfl := r₁.rd.none_inv
  have I₁ := I.go G₁ W₁ m₁ tk₁
  have x₁ := keepx G₁ (fun h => nomatch h) ax.1 hx
  have d₁ := keepd G₁ (fun h => nomatch h) ad.hl hdx
  refine wpAny_Constant_none (wpAny_isNot_self rfl (wpAny_truthy_bool ?_))
  rw [if_neg (by decide)]
  refine wpAny_List (wpAny_items_nil ⟨by decide, ?_⟩)
  obtain ⟨G₂, W₂, m₂, lH⟩ := pushed I₁ { cls := .type "list", data := .seq (([] : List Value).toArray) }
  have I₂ := I₁.go G₂ W₂ m₂ tk₁
  have l₂ : (h₁.push { cls := .type "list", data := .seq (([] : List Value).toArray) }).get? h₁.objs.size = some ⟨.type "list", none, .seq #[] 0, #[]⟩ := Heap.get?_push_size _ rfl
  have xH₁ := G₁.hlNew hx ax.1
  have dH₁ := G₁.hlNew hdx ad.hl
  have lF : h₁.objs.size ∉ F := fun h => Nat.lt_irrefl _ (I₁.mt _ (I₁.ai.fM _ h))
  have lOwn : h₁.objs.size ∉ Own env sc := fun h => by
    rcases own_inv h with h | ⟨y, _, hc⟩
    · exact Nat.lt_irrefl _ (I₁.mt _ (h ▸ I₁.ei.locM))
    · exact Nat.lt_irrefl _ (I₁.mt _ (I₁.ei.cells y _ hc).1)
  have lD : h₁.objs.size ≠ dx := fun h => Nat.lt_irrefl _ (by have := Heap.lt_size d₁; rw [← h] at this; exact this)
  have hsz : s.heap.objs.size ≤ h₁.objs.size := G₁.size
  refine store_snd I₂ ho.2 (pv := .obj h₁.objs.size) (.inl .obj) fun h₃ tk₃ p₃ G₃ I₃ => ?_
  have x₃ := keepx G₃ ax.2.2 xH₁ (Heap.get?_push_of_some _ x₁)
  have d₃ := keepd G₃ dOwn dH₁ (Heap.get?_push_of_some _ d₁)
  have l₃ := G₃.keep _ _ lOwn lH lF l₂
  generalize hl : h₁.objs.size = l at *
  -- its type
  refine execs_one (wpAny_If (wpAny_isTrue_Compare1 ?_ rfl))
  refine wpAny_Call_NameR (name_eval (by decide) (glob_bt I₃.wi I₃.ek ht (ns_type w) boot_type (by decide) ?_))
  refine call_snd (E := nameE) (xs := [.obj l]) (wd' := wd) (first := []) (.inl fun _ e => nomatch e) nameS I₃ (name1 ho.1 (by rw [lookup_cons', if_pos rfl])) fun vals Hs₄ M₄ h₄ tk₄ G₄ W₄ m₄ r₄ => ?_
  replace r₄ := r₄.one; obtain ⟨_, rfl, r₄⟩ := r₄
  obtain rfl := r₄.shape
  have I₄ := I₃.go G₄ W₄ m₄ tk₄
  have l₄ := G₄.keep _ _ (fun h => no_mem h) lH lF l₃
  have x₄ := keepx G₄ (fun h => nomatch h) xH₁ x₃
  have d₄ := keepd G₄ (fun h => nomatch h) dH₁ d₃
  refine call_type_of (Tx := "list") ⟨_, l₄, rfl⟩ (by decide +kernel) ?_
  refine name_eval (by decide) (glob_bt I₄.wi I₄.ek hli (ns_list w) boot_list (by decide) ?_)
  refine wpAny_isNot_self rfl (wpAny_truthy_bool ?_)
  rw [if_neg (by decide)]
  refine wpAny_execs_nil ?_
  have lH₄ := G₄.hlNew l₃ lH
  have xH₄ := G₄.hlNew x₃ xH₁
  have dH₄ := G₄.hlNew d₃ dH₁
  -- the store
  have look : ∀ {pv}, ((hn, pv) :: [("self", PV.obj x), (hn, .dat .none)] : Vars).lookup hn = some pv := by intro pv; rw [lookup_cons', if_pos rfl]
  have lookS : ∀ {pv}, ((hn, pv) :: [("self", PV.obj x), (hn, .dat .none)] : Vars).lookup (Str.ofString "self") = some (PV.obj x) := by intro pv; rw [lookup_cons', if_neg hne, lookup_cons', if_pos rfl]
  refine execs_one (plainObj_wpAny_Assign_Attribute (name_snd (pv := .obj l) I₄ ho.1 look fun v₅ Hs₅ M₅ h₅ tk₅ G₅ W₅ m₅ r₅ => ?_) rfl)
  obtain rfl := r₅.shape
  have I₅ := I₄.go G₅ W₅ m₅ tk₅
  refine name_snd (pv := .obj x) I₅ (by decide) lookS fun v₆ Hs₆ M₆ h₆ tk₆ G₆ W₆ m₆ r₆ => ?_
  obtain rfl := r₆.shape
  have I₆ := I₅.go G₆ W₆ m₆ tk₆
  have G56 := G₅.trans' G₆
  have l₆ := G56.keep _ _ (fun h => no_mem h) lH₄ lF l₄
  have x₆ := keepx G56 (fun h => nomatch h) xH₄ x₄
  have d₆ := keepd G56 (fun h => nomatch h) dH₄ d₄
  have lH₆ := G56.hlNew l₄ lH₄
  have dH₆ := G56.hlNew d₄ dH₄
  refine hd_store I₆.wi.inK x₆ d₆ fun h₇ t₇ z₇ d₇ sb₇ => ?_
  have p₇ := sb_pv sb₇
  have dM₆ : dx ∈ M₆ := G56.ms _ (G₄.ms _ (G₃.ms _ (G₂.ms _ (G₁.ms _ dM))))
  have ap₆ : Apart env F [] Hs₆ dx := ⟨dH₆, ad.lc, ad.ce, ad.ml, ad.fr⟩
  have I₇ := I₆.pvt p₇ (one_all ⟨dM₆, ap₆⟩) (fun _ x => x) (fun _ x => .inl x) (fun a x => by rw [sb₇.1]; exact I₆.mt a x) (tk₆ + 2)
  have G₇ : Go [dx] Hs₆ F M₆ h₆ Hs₆ M₆ h₇ := p₇.go (fun _ x => x) (fun _ x => .inl x) _ _ _ fun _ x => x
  have l₇ := sb₇.extBut _ _ lD l₆
  refine execs_one (wpAny_If (wpAny_isTrue_value (wpAny_Constant_bool (wpAny_truthy_bool ?_))))
  rw [if_pos rfl]
  refine execs_one (for_nil I₇ ho.1 look l₇ fun h₈ k₈ => ?_)
  refine wpAny_execs_nil (wpAny_execs_nil ?_)
  have G₈ := Go.kp k₈ [] Hs₆ F M₆
  have I₈ := I₇.go G₈ (I₇.wi.kp k₈) (I₇.mt.kp k₈) (tk₆ + 2)
  have inO : ∀ a ∈ Own env sc, a ∈ Own env sc ++ [dx] := fun a h => List.mem_append_left _ h
  have G : Go (Own env sc ++ [dx]) Hs F M s.heap Hs₆ M₆ h₈ := ((((G₁.trans' G₂).weaken (fun _ h => nomatch h)).trans' ((G₃.weaken inO).trans' ((G₄.trans' G56).weaken fun _ h => nomatch h))).trans' (G₇.weaken fun _ h => List.mem_append_right _ h)).trans' (G₈.weaken fun _ h => nomatch h)
  refine hQ Hs₆ M₆ [] h₈ (tk₆ + 2) G (fun _ h => no_mem h) (I₈.sub fun y pv e => by cases e) ⟨l, hsz, G56.ms _ (G₄.ms _ (G₃.ms _ (.head _))), lH₆, ⟨_, k₈.get _ _ l₇⟩, _, _, k₈.get _ _ d₇⟩
end
noncomputable def scI : Scope := (mthD "__init__").2.2
theorem scI_type : globV scI "type" = true := by kernel_rfl!
theorem scI_list : globV scI "list" = true := by kernel_rfl!
section
variable {w : World} {A : Around} {env : Env} {sc sc' : Scope} {F F' ML M M' ML' T : List Addr} {Hs Hs' : HL} {vs vs' : Vars} {wd wd' : Wd} {s : Shared} {n m : Nat} {h h' : Heap} {pv : PV} {X : Value → Shared → Prop} {E : Ev} {D : Addr} {ds : List PyData} {R : Result → Shared → Prop} {fl : Fl} {Q : Flow → Shared → Prop}
theorem init_body {x dx : Addr} (I : Si w A env (mthD "__init__").2.2 F [] M Hs ((mthD "__init__").1.zip [.obj x, .dat .none]) wd s n) (hx : s.heap.get? x = some (instObj 189 dx)) (hdx : s.heap.get? dx = some emptyDict) (ax : x ∉ Hs.map (·.2) ∧ x ∉ F ∧ x ∉ Own env (mthD "__init__").2.2) (ad : Apart env F [] Hs dx) (dM : dx ∈ M)
    (hQ : ∀ Hs' M' ML' h' tk, Go (Own env (mthD "__init__").2.2 ++ [dx]) Hs F M s.heap Hs' M' h' → (∀ a ∈ ML', s.heap.objs.size ≤ a) → Si w A env (mthD "__init__").2.2 F ML' M' Hs' [] wd { s with heap := h', toks := tk } n →
      (∃ l, s.heap.objs.size ≤ l ∧ l ∈ M' ∧ l ∉ Hs'.map (·.2) ∧ (∃ z, h'.get? l = some ⟨.type "list", none, .seq #[] z, #[]⟩) ∧ ∃ t z, h'.get? dx = some (dictOf [⟨PyData.keyHash w.params "_headers", .str "_headers" t, .ref l⟩] z)) → Q .next { s with heap := h', toks := tk }) :
    wpAny (model PG w) A (execs (mthD "__init__").2.1 env) Q X s := by
  have st := scI_type
  have sl := scI_list
  unfold scI at st sl
  generalize hb : (mthD "__init__") = d at *
  conv at hb => 
    lhs
    reduce
  subst hb
  refine init_shape (hn := ⟨#[104, 101, 97, 100, 101, 114, 115]⟩) ?_ st sl (by decide) I hx hdx ax ad dM hQ
  rfl
theorem Go.lenW {S : List Addr} (G : Go S Hs F M h Hs' M' h') (e : Hs'.length = Hs.length) : Hs' = Hs := by
  obtain ⟨ext, rfl, _⟩ := G.hs
  rw [List.length_append] at e
  have : ext = [] := List.eq_nil_of_length_eq_zero (by omega)
  rw [this, List.append_nil]
theorem make_call {Q : Value → Shared → Prop} (I : Si w A env sc F ML M Hs vs wd s 3) (hQ : PostE w F ML M Hs s Q (.hdr wd.length) (wd ++ [[]])) : wpAny (model PG w) A (call (.ref 189) []) Q X s := by
  have K := I.wi.inK
  refine wpAny_call ?_
  obtain ⟨hh, g, d, t, os⟩ := s
  refine make_core (makes_of K (makes189 w)) (looks_findIn K (m_init w).find) (fun self => bind_fn K self (m_init w).type) (.inl rfl) ?_
  obtain ⟨G₁, W₁, m₁, dH⟩ := pushed I emptyDict
  have I₁ := I.go G₁ W₁ m₁ t
  have k₂ := Kp.push (hh.push emptyDict) (instObj 189 hh.objs.size)
  have G₂ := Go.kp k₂ [] Hs F (hh.objs.size :: M)
  have I₂ := I₁.go G₂ (W₁.kp k₂) (m₁.kp k₂) t
  have sz : (hh.push emptyDict).objs.size = hh.objs.size + 1 := Heap.size_push ..
  have sz₂ : ((hh.push emptyDict).push (instObj 189 hh.objs.size)).objs.size = hh.objs.size + 1 + 1 := by rw [Heap.size_push, sz]
  have hx : ((hh.push emptyDict).push (instObj 189 hh.objs.size)).get? (hh.objs.size + 1) = some (instObj 189 hh.objs.size) := by rw [← sz]; exact Heap.get?_push_size _ rfl
  have hdx : ((hh.push emptyDict).push (instObj 189 hh.objs.size)).get? hh.objs.size = some emptyDict := Heap.get?_push_of_some _ (Heap.get?_push_size _ rfl)
  have old : ∀ {a}, a ∈ M → a < hh.objs.size := fun h => I.mt _ h
  have xF : hh.objs.size + 1 ∉ F := fun h => Nat.lt_irrefl _ (Nat.lt_of_succ_lt (old (I.ai.fM _ h)))
  have dF : hh.objs.size ∉ F := fun h => Nat.lt_irrefl _ (old (I.ai.fM _ h))
  have xH : hh.objs.size + 1 ∉ Hs.map (·.2) := fun h => by
    obtain ⟨p, hp, e⟩ := List.mem_map.mp h
    have := old (I.wi.hlM p hp)
    rw [e] at this
    exact Nat.lt_irrefl _ (Nat.lt_of_succ_lt this)
  have xM : hh.objs.size + 1 ∉ hh.objs.size :: M := fun h => by
    rcases List.mem_cons.mp h with h | h
    · exact absurd h (Nat.succ_ne_self _)
    · exact Nat.lt_irrefl _ (Nat.lt_of_succ_lt (old h))
  have Iu : Si w (A.under (.builtin "type.__call__" ⟨.ref 189 :: [], []⟩)) env sc F ML (hh.objs.size :: M) Hs vs wd ⟨(hh.push emptyDict).push (instObj 189 hh.objs.size), g, d, t, os⟩ (1 + 1) := by
    refine ⟨I₂.ek, ⟨I₂.ai.handled, I₂.ai.frames, I₂.ai.fM, ?_, ?_⟩, I₂.wi, I₂.ei, I₂.mt, I₂.fh⟩
    · have := I₂.ai.depth
      show A.depth + 1 + (1 + 1) + 20 < _
      omega
    · have := I₂.ai.units
      show A.units + 1 + 3 * (1 + 1) + 300 < _
      omega
  refine codeAny_mono (fn_codeS (ML := ML) (d := mthD "__init__") (args := ⟨[.ref (hh.objs.size + 1)], []⟩) (vals := [.ref (hh.objs.size + 1), .none]) (pvs := [.obj (hh.objs.size + 1), .dat .none]) (fl := .next) (pv := .dat .none) (vs' := []) (wd' := wd) (S₀ := [hh.objs.size])
    (Rx := fun i f h M' => f = .next ∧ ∃ l, i ≤ l ∧ l ∈ M' ∧ (∃ z, h.get? l = some ⟨.type "list", none, .seq #[] z, #[]⟩) ∧ ∃ t z, h.get? hh.objs.size = some (dictOf [⟨PyData.keyHash w.params "_headers", .str "_headers" t, .ref l⟩] z))
    (Q := fun v s' => v = .none ∧ Q (.ref (hh.objs.size + 1)) s') (X := X) (fun i j f h M' hij ⟨h1, l, h2, h3⟩ => ⟨h1, l, Nat.le_trans hij h2, h3⟩) I₂.wi.inK (m_init w).g (fun fd e => b_init w _ fd e _ I₂.wi.inK) (fun {A env F' M' s' Q X} G hF _ I' hQ' => ?_) Iu.sb
    (.cons (.inl .obj) (.cons Rd.none.vr .nil)) rfl rfl rfl (fun v Hs₃ M₃ h₃ tk₃ G₃ W₃ m₃ r₃ hR => ?_)) (fun r s' z => ?_)
  · -- the body
    have f1 := hF (hh.objs.size + 1) (by rw [sz₂]; exact Nat.lt_succ_self _) xF
    have f2 := hF hh.objs.size (by rw [sz₂]; exact Nat.lt_succ_of_lt (Nat.lt_succ_self _)) dF
    have x' := G.keep _ _ (fun h => no_mem h) xH f1.1 hx
    have d' := G.keep _ _ (fun h => no_mem h) dH f2.1 hdx
    refine init_body I' x' d' ⟨xH, f1.1, fun h => ?_⟩ ⟨dH, f2.2.1, f2.2.2, (fun h => no_mem h), f2.1⟩ (G.ms _ (.head _)) fun Hs' M'' ML' h' tk G' hm I'' hl => ?_
    · rcases own_inv h with h | ⟨y, _, hc⟩
      · exact f1.2.1 h
      · exact f1.2.2 y _ hc rfl
    · obtain ⟨l, a1, a2, a3, a4, a5⟩ := hl
      exact hQ' .next Hs' M'' ML' h' tk G' hm I'' rfl ⟨rfl, l, a1, a2, a4, a5⟩
  · -- behind the call
    obtain ⟨f, ⟨hf, l, a1, a2, ⟨z, a4⟩, tt, zz, a5⟩, hfv⟩ := hR (fun xs e => nomatch e)
    have rv := r₃.rd.none_inv
    refine ⟨rv, ?_⟩
    have eH : Hs₃ = Hs := G₃.lenW (by rw [W₃.len, I.wi.len])
    subst eH
    have x₃ := G₃.keep _ _ (fun h => by
      rcases List.mem_cons.mp h with h | h
      · exact absurd h (Nat.succ_ne_self _)
      · cases h) xH xF hx
    have xM₃ := G₃.mNew hx xM
    have sub : ∀ a ∈ M₃.filter (· ≠ hh.objs.size), a ∈ M₃ := fun a h => (List.mem_filter.mp h).1
    have ins : ∀ a ∈ M₃, a ≠ hh.objs.size → a ∈ M₃.filter (· ≠ hh.objs.size) := fun a h n => List.mem_filter.mpr ⟨h, by simpa using n⟩
    have dM₄ : hh.objs.size ∉ M₃.filter (· ≠ hh.objs.size) := fun h => by simpa using (List.mem_filter.mp h).2
    have hid : ∀ a o, (Hid h₃ M₃).get? a = some o → (Hid h₃ (M₃.filter (· ≠ hh.objs.size))).get? a = some o := fun a o e => Hid.get (Hid.of e) fun h => Hid.off e (sub a h)
    have one : ∀ {a}, a < hh.objs.size → a ∉ [hh.objs.size] := fun h m => by
      rcases List.mem_cons.mp m with e | m
      · exact absurd h (by rw [e]; exact Nat.lt_irrefl _)
      · cases m
    have up : ∀ {a o}, hh.get? a = some o → ((hh.push emptyDict).push (instObj 189 hh.objs.size)).get? a = some o := fun e => Heap.get?_push_of_some _ (Heap.get?_push_of_some _ e)
    have lbig : hh.objs.size ≤ l := Nat.le_trans (Nat.le_trans (Nat.le_succ _) (Nat.le_succ _)) (Nat.le_trans (Nat.le_of_eq sz₂.symm) a1)
    have lne : l ≠ hh.objs.size := fun e => by
      have := a1
      rw [e, sz₂] at this
      exact Nat.lt_irrefl _ (Nat.lt_of_lt_of_le (Nat.lt_succ_of_lt (Nat.lt_succ_self _)) this)
    have oldH : ∀ p ∈ Hs₃, p.2 < hh.objs.size := fun p hp => old (I.wi.hlM p hp)
    have G₄ : Go [] Hs₃ F M hh (Hs₃ ++ [(hh.objs.size + 1, l)]) (M₃.filter (· ≠ hh.objs.size)) h₃ := by
      refine ⟨fun a o _ h2 h3 e => G₃.keep a o (one (Heap.lt_size e)) h2 h3 (up e), fun a h1 _ h3 o e => G₃.fr a h1 (one (Heap.lt_size e)) h3 o (up e), ?_, fun a h => ins a (G₃.ms a (.tail _ h)) fun e => absurd (old h) (by rw [e]; exact Nat.lt_irrefl _), fun a h => ?_, _, rfl, fun p hp => ?_⟩
      · exact Nat.le_trans (Nat.le_trans (Nat.le_trans (Nat.le_succ _) (Nat.le_succ _)) (Nat.le_of_eq sz₂.symm)) G₃.size
      · rcases G₃.fresh a (sub a h) with h' | h'
        · rcases List.mem_cons.mp h' with rfl | h'
          · exact absurd h dM₄
          · exact .inl h'
        · exact .inr (Nat.le_trans (Nat.le_trans (Nat.le_trans (Nat.le_succ _) (Nat.le_succ _)) (Nat.le_of_eq sz₂.symm)) h')
      · rw [List.mem_singleton.mp hp]; exact lbig
    have W₄ : WInv w (M₃.filter (· ≠ hh.objs.size)) (Hs₃ ++ [(hh.objs.size + 1, l)]) (wd ++ [[]]) h₃ := by
      refine ⟨fun a o e => hid a o (W₃.kin a o e), W₃.tr.keeps hid, by rw [List.length_append, List.length_append, W₃.len]; rfl, fun i p it e1 e2 => ?_, fun p hp => ?_, ?_⟩
      · rcases Nat.lt_or_ge i Hs₃.length with hi | hi
        · rw [List.getElem?_append_left hi] at e1
          rw [List.getElem?_append_left (by rw [← W₃.len]; exact hi)] at e2
          exact (W₃.hd i p it e1 e2).mv hid fun _ e => e
        · rw [List.getElem?_append_right hi] at e1
          rw [List.getElem?_append_right (by rw [← W₃.len]; exact hi), ← W₃.len] at e2
          cases hj : i - Hs₃.length with
          | zero =>
            rw [hj] at e1 e2
            cases e1
            cases e2
            exact ⟨⟨_, _, _, Hid.get x₃ fun h => xM₃ (sub _ h), Hid.get a5 dM₄⟩, ⟨_, _, _, a4, .nil⟩⟩
          | succ j => rw [hj] at e1; simp at e1
      · rcases List.mem_append.mp hp with hp | hp
        · exact ins _ (W₃.hlM p hp) fun e => absurd (oldH p hp) (by rw [e]; exact Nat.lt_irrefl _)
        · rw [List.mem_singleton.mp hp]; exact ins _ a2 lne
      · rw [List.map_append, List.nodup_append]
        refine ⟨W₃.nd, by simp, fun a ha b hb => ?_⟩
        obtain ⟨p, hp, rfl⟩ := List.mem_map.mp ha
        simp only [List.map_cons, List.map_nil, List.mem_singleton] at hb
        subst hb
        exact fun e => absurd (oldH p hp) (by rw [e]; exact Nat.not_lt.mpr lbig)
    refine hQ (.ref (hh.objs.size + 1)) _ _ h₃ tk₃ G₄ W₄ (fun a h => m₃ a (sub a h)) (.inl (.hdr (l := l) ?_))
    rw [← I.wi.len, List.getElem?_append_right (Nat.le_refl _), Nat.sub_self]
    rfl
  · rcases r with e | (v | _ | _ | _) <;> first | exact z | exact z.elim
end
/-- an IndexError: its traceback, the frame that it flies through, what it was raised beside -/
structure Exc (h : Heap) (e : Addr) (tb : Option Addr) (fl : Value) (cx : Value) : Prop where
  obj : ∃ oe vs, h.get? e = some oe ∧ oe.cls = .type "IndexError" ∧ oe.data = .fields vs ∧ vs.size = 6 ∧ vs[1]? = some (match tb with | none => .none | some t => .ref t) ∧ vs[2]? = some cx
  tr : ∀ t, tb = some t → t ≠ e ∧ ∃ ot ts, h.get? t = some ot ∧ ot.data = .fields ts ∧ 3 < ts.size ∧ ts[3]? = some fl

theorem entry_unchain : entryFor table "proto.unchain" = some Builtin.«proto.unchain» := entryFor_of_tree (by kernel_rfl)
noncomputable def Calm (A : Around) (h : Heap) : Prop := A.handled = none ∨ ∃ e tb fl, A.handled = some (.ref e) ∧ Exc h e tb fl .none
section
variable {w : World} {A : Around} {E : Value → Shared → Prop} {s : Shared}
theorem wpAny_ite_pos {α : Type} {c : Prop} [Decidable c] {x y : Sem α} {Q : α → Shared → Prop} (hc : c) (h : wpAny (model PG w) A x Q E s) : wpAny (model PG w) A (if c then x else y) Q E s := by rw [if_pos hc]; exact h
theorem raise_any {α : Type} {msg : String} {Q : α → Shared → Prop} (hh : Calm A s.heap)
    (h : ∀ h' tk e cx, Kp s.heap h' → s.heap.objs.size ≤ e → e < h'.objs.size → Exc h' e none .none cx → (A.handled = none → cx = .none) → E (.ref e) { s with heap := h', toks := tk }) :
    wpAny (model PG w) A (raiseErrorWords "IndexError" msg : Sem α) Q E s := by
  unfold raiseErrorWords
  refine wpAny_bind (wpAny_mkText (wpAny_bind ?_))
  unfold newExc newTuple
  refine wpAny_bind (wpAny_newObj_type ?_)
  refine wpAny_bind (m := firstArgMember _ _) (wpAny_of_eq (a := Value.none) (by simp only [firstArgMember, plainExc_IndexError.first]; rfl) ?_)
  rw [plainExc_IndexError.own]
  refine wpAny_newObj_type ?_
  have k : Kp s.heap ((s.heap.push { cls := .type "tuple", data := .seq [Value.str msg s.toks].toArray }).push { cls := .type "IndexError", data := .fields (#[Value.ref s.heap.objs.size, .none, .none, .none, .bool false, .none] ++ #[]) }) := (Kp.push _ _).trans (Kp.push _ _)
  have sz : (s.heap.push { cls := .type "tuple", data := .seq [Value.str msg s.toks].toArray }).objs.size = s.heap.objs.size + 1 := Heap.size_push ..
  have he : ((s.heap.push { cls := .type "tuple", data := .seq [Value.str msg s.toks].toArray }).push { cls := .type "IndexError", data := .fields (#[Value.ref s.heap.objs.size, .none, .none, .none, .bool false, .none] ++ #[]) }).get? (s.heap.push { cls := .type "tuple", data := .seq [Value.str msg s.toks].toArray }).objs.size = some { cls := .type "IndexError", data := .fields (#[Value.ref s.heap.objs.size, .none, .none, .none, .bool false, .none] ++ #[]) } := Heap.get?_push_size _ rfl
  unfold raiseNew
  refine wpAny_bind (wpAny_handled ?_)
  rcases hh with hh | ⟨e0, tb0, fl0, hh, x0⟩
  · rw [hh]
    first
      | refine wpAny_throw ?_
      | refine wpAny_bind (wpAny_pure (wpAny_throw ?_))
    refine h _ _ _ .none k (by rw [sz]; exact Nat.le_succ _) ?_ ⟨⟨_, _, he, rfl, rfl, rfl, rfl, rfl⟩, fun t ht => nomatch ht⟩ fun _ => rfl
    exact Heap.lt_size he
  · rw [hh]
    obtain ⟨oe, vs, h1, h2, h3, h4, h5, h6⟩ := x0.obj
    have hne : e0 ≠ (s.heap.push { cls := .type "tuple", data := .seq [Value.str msg s.toks].toArray }).objs.size := by
      have := Heap.lt_size h1
      rw [sz]
      exact Nat.ne_of_lt (Nat.lt_succ_of_lt this)
    generalize hE : (s.heap.push { cls := .type "tuple", data := .seq [Value.str msg s.toks].toArray }).objs.size = a at *
    generalize hH : ((s.heap.push { cls := .type "tuple", data := .seq [Value.str msg s.toks].toArray }).push { cls := .type "IndexError", data := .fields (#[Value.ref s.heap.objs.size, .none, .none, .none, .bool false, .none] ++ #[]) }) = g at *
    dsimp only
    have ha : a < g.objs.size := Heap.lt_size he
    refine wpAny_ite_pos (by simpa using hne) ?_
    have h1g : g.get? e0 = some oe := k.get _ _ h1
    refine wpAny_bind (wpAny_holding (wpAny_runValue (codeAny_builtin entry_unchain ?_)))
    unfold Builtin.«proto.unchain»
    refine wpAny_bind (wpAny_field h1g h3 h6 ?_)
    rw [if_pos (by rfl)]
    refine wpAny_pure ?_
    dsimp only
    have hup : (g.update a (Obj.mapFields (·.setIfInBounds 2 (.ref e0)))).get? a = some { cls := .type "IndexError", data := .fields #[Value.ref s.heap.objs.size, .none, .ref e0, .none, .bool false, .none] } := by
      rw [Heap.get?_update_self _ he (by rfl)]
      rfl
    refine wpAny_bind ?_
    simp only [updateField]
    refine wpAny_bind (wpAny_load he ?_)
    refine wpAny_update he (wpAny_throw ?_)
    refine h _ _ a (.ref e0) ⟨fun b o hb => ?_, ?_⟩ (by rw [sz]; exact Nat.le_succ _) ?_ ⟨⟨_, _, hup, rfl, rfl, rfl, rfl, rfl⟩, fun t ht => nomatch ht⟩ fun hn => by rw [hn] at hh; cases hh
    · rw [Heap.get?_update_other _ _ (fun e => ?_)]
      · exact k.get _ _ hb
      · have := Heap.lt_size hb
        rw [← e, sz] at this
        exact absurd this (Nat.not_lt.mpr (Nat.le_succ _))
    · rw [Heap.size_after_update]; exact k.size
    · rw [Heap.size_after_update]; exact ha
end
section
variable {w : World} {A A₀ : Around} {env : Env} {sc : Scope} {F ML M M' : List Addr} {Hs : HL} {vs : Vars} {wd : Wd} {s : Shared} {n : Nat} {h h' : Heap} {pv : PV} {X : Value → Shared → Prop}

theorem load_here {x : Str} {Q : Value → Shared → Prop} (I : Si w A₀ env sc F ML M Hs vs wd s n) (ho : okName x = true) (e : vs.lookup x = some pv) (h : ∀ v, Vr w.params s.heap M Hs ML v pv → Q v s) : wpAny (model PG w) A (loadName env x) Q X s := by
  obtain ⟨m, hn, hv⟩ := I.ei.ns
  obtain ⟨v, r, a⟩ := hv x pv e
  unfold okName at ho
  simp only [Bool.and_eq_true, bne_iff_ne, ne_eq] at ho
  rcases a with ⟨k, a⟩ | ⟨k, c, hc, hv⟩
  · exact wpAny_loadName_local I.ek.kind k hn a (h v r)
  · rcases k with k | k
    · exact wpAny_loadName_cell I.ek.kind k hc hv (h v r)
    · exact wpAny_loadName_free I.ek.kind k hc hv (h v r) (by simpa using ho.2)
theorem name_here {x : Str} {p : Pos} {Q : Value → Shared → Prop} (I : Si w A₀ env sc F ML M Hs vs wd s n) (ho : okName x = true) (e : vs.lookup x = some pv) (h : ∀ v, Vr w.params s.heap M Hs ML v pv → Q v s) : wpAny (model PG w) A (eval (.Name x p) env) Q X s := name_eval ho (load_here I ho e h)

/-- an index beyond a list's end -/
theorem getItem_out' {prog : Program} {l : Addr} {items : Array Value} {k : Int} {t : Tok} {Q : Value → Shared → Prop} (hr : ∀ {α : Type} {msg : String} {Q : α → Shared → Prop}, wpAny (model prog w) A.in1 (raiseErrorWords "IndexError" msg : Sem α) Q X s) (hl : s.heap.IsList l items) (hout : k < -(items.size : Int) ∨ (items.size : Int) ≤ k) (hlo : -(2 ^ 63) ≤ k) (hhi : k < 2 ^ 63) :
    wpAny (model prog w) A (getItem (.ref l) (.int k t)) Q X s := by
  obtain ⟨o, ho, hc, ne, hd⟩ := id hl
  unfold getItem
  try with_reducible refine wpAny_holding ?_
  first | refine wpAny_bind (wpAny_pure ?_) | skip
  refine wpAny_bind (wpAny_sequenceKey hl.typeIs (by decide) ?_)
  refine wpAny_bind (wpAny_callSpecial?_slot (name := Str.ofString "__getitem__") hl.typeIs slot_list_getitem
    (wpAny_call_entry slot_list_getitem hl.typeIs entry_list_getitem ?_ (args_list_getitem _ _)))
  show wpAny _ _ (Builtin.List.listSubscript? (.int k t) >>= _) _ _ s
  refine wpAny_bind (wpAny_listSubscript_int (fitsIndex_both hlo hhi) ?_)
  clear hlo hhi
  induction k with
  | ofNat j =>
    have hx : items[j]? = none := by
      rcases hout with h | h
      · exact absurd h (by simp only [Int.ofNat_eq_natCast]; omega)
      · exact Array.getElem?_eq_none (by have : (items.size : Int) ≤ (j : Int) := h; omega)
    show wpAny _ _ ((seqItemAt l j >>= fun r => pure (r.map (j, ·))) >>= _) _ _ s
    refine wpAny_bind (wpAny_bind (wpAny_seqItemAt ho hd (wpAny_pure ?_)))
    rw [hx]
    first
      | exact wpAny_bind (wpAny_rule hr)
      | exact wpAny_bind (wpAny_rule (wpAny_bind hr))
      | exact wpAny_bind (wpAny_bind (wpAny_rule hr))
      | exact wpAny_rule hr
  | negSucc j =>
    have hidx : seqIndex? (Int.negSucc j) items.size = none := by
      rcases hout with h | h
      · exact seqIndex_below h
      · exact absurd h (by have := Int.negSucc_lt_zero j; omega)
    show wpAny _ _ ((Builtin.List.listItems (.ref l) >>= fun xs => pure ((seqIndex? (Int.negSucc j) xs.size).bind fun i => xs[i]?.map (i, ·))) >>= _) _ _ s
    refine wpAny_bind (wpAny_bind ?_)
    show wpAny _ _ (seqItems? (.ref l) >>= _) _ _ s
    refine wpAny_bind (wpAny_seqItems ho hd (wpAny_pure (wpAny_pure ?_)))
    rw [hidx]
    first
      | exact wpAny_bind (wpAny_rule hr)
      | exact wpAny_bind (wpAny_rule (wpAny_bind hr))
      | exact wpAny_bind (wpAny_bind (wpAny_rule hr))
      | exact wpAny_rule hr
theorem getItem_out {l : Addr} {items : Array Value} {k : Nat} {t : Tok} {Q : Value → Shared → Prop} (hh : Calm A s.heap) (hl : s.heap.IsList l items) (hout : items.size ≤ k) (hk : k ≤ small)
    (h : ∀ h' tk e cx, Kp s.heap h' → s.heap.objs.size ≤ e → e < h'.objs.size → Exc h' e none .none cx → (A.handled = none → cx = .none) → X (.ref e) { s with heap := h', toks := tk }) :
    wpAny (model PG w) A (getItem (.ref l) (.int k t)) Q X s := by
  have hh' : Calm A.in1 s.heap := hh
  have sm : small = 1000 := rfl
  exact getItem_out' (raise_any hh' h) hl (.inr (by omega)) (by omega) (by omega)

theorem funFrames_of : ∀ {fs : List Env}, (∀ e ∈ fs, e.scope.kind ≠ .module ∧ ∃ L m, e.frame = some L ∧ h.Ns L m) → h.FunFrames { objs := #[] } fs
  | [], _ => trivial
  | e :: r, hf => by
    obtain ⟨h1, L, m, h2, o, _, _, h3, h4, _⟩ := hf e (.head _)
    refine ⟨h1, ⟨L, o, h2, Heap.get?_none_of_le (Nat.zero_le _), h3, fun vs e => by rw [h4] at e; cases e⟩, funFrames_of fun e he => hf e (.tail _ he)⟩
/-- a first entry in an exception's traceback -/
theorem note_any {outer : List Env} {base : Heap} {e L : Addr} {cx : Value} {Q : Unit → Shared → Prop} (hf : env.frame = some L) (hfr : A.frames = some (env :: outer)) (ff : s.heap.FunFrames base (env :: outer)) (x : Exc s.heap e none .none cx)
    (h : ∀ h' t, s.heap.objs.size ≤ t → t < h'.objs.size → s.heap.objs.size ≤ h'.objs.size → (∀ b o, b ≠ e → b ∉ (env :: outer).filterMap (·.frame) → s.heap.get? b = some o → h'.get? b = some o) → (∀ b o, b ≠ e → s.heap.get? b = some o → ∃ sl, h'.get? b = some { o with slots := sl }) → Exc h' e (some t) (rawInt L) cx → Q () { s with heap := h' }) :
    wpAny (model PG w) A (noteFrame (.ref e) env) Q X s := by
  obtain ⟨oe, vs, he, hcls, hd, hsz, h1, h2⟩ := x.obj
  unfold noteFrame
  simp only [hf]
  refine wpAny_bind (wpAny_field he hd h1 ?_)
  rw [if_neg (by decide)]
  have hene : e ∉ (env :: outer).filterMap (·.frame) := fun hm => by
    obtain ⟨_, o, ho, hnf⟩ := ff.mem hm
    rw [he] at ho; injection ho with ho; subst ho; exact hnf vs hd
  refine wpAny_bind (wpAny_frameOf_fun hfr ff hf fun h₁ hs₁ => ?_)
  refine wpAny_bind (wpAny_entryPlaceOf fun pl hpl => ?_)
  unfold EntryCells.newEntry newFields
  refine wpAny_bind (wpAny_newObj_type ?_ (hpl.sizeOk5 _ _ _ _ _))
  have he₁ : h₁.get? e = some oe := (hs₁.2.1 e hene).trans he
  have he₂ := Heap.get?_push_of_some (h := h₁) { cls := .type "traceback", dict := none, data := .fields ([Value.none, .ref L, .none, rawInt L, .none] ++ (if pl.isEmpty then List.replicate 6 Value.none else pl)).toArray } he₁
  refine wpAny_setField he₂ hd (by omega) ?_
  have hTe : h₁.objs.size ≠ e := Nat.ne_of_gt (Heap.lt_size he₁)
  have hd₃ := Obj.data_mapFields hd (·.setIfInBounds 1 (Value.ref h₁.objs.size))
  have he₃ := Heap.get?_update_self (Obj.mapFields (·.setIfInBounds 1 (Value.ref h₁.objs.size))) he₂ (Obj.isFreed_of_fields hd₃)
  have hT₃ := (Heap.get?_update_other (h₁.push { cls := .type "traceback", dict := none, data := .fields ([Value.none, .ref L, .none, rawInt L, .none] ++ (if pl.isEmpty then List.replicate 6 Value.none else pl)).toArray })
    (Obj.mapFields (·.setIfInBounds 1 (Value.ref h₁.objs.size))) (Ne.symm hTe)).trans (Heap.get?_push_size h₁ rfl)
  have other : ∀ b o, b ≠ e → h₁.get? b = some o → ((h₁.push { cls := .type "traceback", dict := none, data := .fields ([Value.none, .ref L, .none, rawInt L, .none] ++ (if pl.isEmpty then List.replicate 6 Value.none else pl)).toArray }).update e (Obj.mapFields (·.setIfInBounds 1 (Value.ref h₁.objs.size)))).get? b = some o := fun b o hb e1 => by
    rw [Heap.get?_update_other _ _ (Ne.symm hb)]
    exact Heap.get?_push_of_some _ e1
  refine h _ h₁.objs.size (Nat.le_of_eq hs₁.1.symm) ?_ ?_ (fun b o hb hbf e1 => other b o hb ((hs₁.2.1 b hbf).trans e1)) (fun b o hb e1 => ?_) ⟨⟨_, _, he₃, ?_, hd₃, by rw [Array.size_setIfInBounds]; exact hsz, by rw [Array.getElem?_setIfInBounds]; simp [hsz], by rw [Array.getElem?_setIfInBounds]; simpa using h2⟩, fun t ht => ?_⟩
  · exact Heap.lt_size hT₃
  · rw [Heap.size_after_update, Heap.size_push, hs₁.1]; exact Nat.le_succ _
  · obtain ⟨sl, e2⟩ := hs₁.2.2 b o e1
    exact ⟨sl, other b _ hb e2⟩
  · rw [Obj.cls_mapFields]; exact hcls
  · cases ht
    exact ⟨hTe, _, _, hT₃, rfl, by simp only [List.size_toArray, List.length_append, List.length_cons, List.length_nil] <;> omega, by first | (simp; done) | (rcases hpl with rfl | ⟨_, _, _, _, _, _, _, rfl⟩ <;> simp)⟩
theorem note_flying {e t L : Addr} {cx : Value} {Q : Unit → Shared → Prop} (hf : env.frame = some L) (x : Exc s.heap e (some t) (rawInt L) cx) (h : Q () s) : wpAny (model PG w) A (noteFrame (.ref e) env) Q X s := by
  obtain ⟨oe, vs, he, hcls, hd, hsz, h1, h2⟩ := x.obj
  obtain ⟨hne, ot, ts, ht, hdt, hst, h3⟩ := x.tr t rfl
  exact wpAny_noteFrame_inFlight hf he hd h1 ht hdt h3 h
theorem flight_to {e t : Addr} {f : Option Addr} {fl cx : Value} {Q : Unit → Shared → Prop} (x : Exc s.heap e (some t) fl cx) (h : ∀ h', Heap.SameBut t s.heap h' → Exc h' e (some t) (f.elim .none fun f => rawInt f) cx → Q () { s with heap := h' }) : wpAny (model PG w) A (setFlight (.ref e) f) Q X s := by
  obtain ⟨oe, vs, he, hcls, hd, hsz, h1, h2⟩ := x.obj
  obtain ⟨hne, ot, ts, ht, hdt, hst, h3⟩ := x.tr t rfl
  unfold setFlight
  refine wpAny_bind (wpAny_field he hd h1 ?_)
  rw [if_pos (show (Value.ref t != Value.none) = true from by simp)]
  refine wpAny_setField ht hdt hst (h _ (Heap.SameBut.update ..) ⟨⟨oe, vs, ?_, hcls, hd, hsz, h1, h2⟩, fun t' e' => ?_⟩)
  · rw [Heap.get?_update_other _ _ hne]; exact he
  · cases e'
    have hd' := Obj.data_mapFields hdt (·.setIfInBounds 3 (f.elim Value.none fun f => rawInt f))
    exact ⟨hne, _, _, Heap.get?_update_self _ ht (Obj.isFreed_of_fields hd'), hd', by rw [Array.size_setIfInBounds]; exact hst, by rw [Array.getElem?_setIfInBounds]; simp [hst]⟩
theorem field1 {e t : Addr} {fl cx : Value} {Q : Value → Shared → Prop} (x : Exc s.heap e (some t) fl cx) (h : Q (.ref t) s) : wpAny (model PG w) A (field (.ref e) 1) Q X s := by
  obtain ⟨oe, vs, he, hcls, hd, hsz, h1, h2⟩ := x.obj
  exact wpAny_field he hd h1 h
end
noncomputable def LR (h : Heap) (M : List Addr) (l : Addr) (xs : List PyData) : Prop := ∃ ws z, h.get? l = some ⟨.type "list", none, .seq ws z, #[]⟩ ∧ RdA h M ws.toList xs
/-- sorted_list_difference, under way -/
structure Sq (w : World) (A₀ : Around) (env : Env) (sc : Scope) (F M₀ : List Addr) (Hs : HL) (wd : Wd) (s₀ : Shared) (n : Nat) (l1 l2 : Addr) (vs : Vars) (X1 X2 : List PyData) (M : List Addr) (s : Shared) : Prop where
  si : Si w A₀ env sc F [] M Hs vs wd s n
  go : Go (Own env sc) Hs F M₀ s₀.heap Hs M s.heap
  g1 : s₀.heap.objs.size ≤ l1
  g2 : s₀.heap.objs.size ≤ l2
  m1 : l1 ∈ M
  m2 : l2 ∈ M
  a1 : Apart env F [] Hs l1
  a2 : Apart env F [] Hs l2
  ne : l1 ≠ l2
  c1 : LR s.heap M l1 X1
  c2 : LR s.heap M l2 X2
/-- but for the function's own, all stands -/
noncomputable def Old (env : Env) (sc : Scope) (F : List Addr) (l1 l2 : Addr) (h h' : Heap) : Prop := ∀ b o, b ∉ F → b ∉ Own env sc → b ≠ l1 → b ≠ l2 → h.get? b = some o → h'.get? b = some o
structure Ex (env : Env) (F : List Addr) (Hs : HL) (s₀ : Shared) (l1 l2 : Addr) (M : List Addr) (h : Heap) (e : Addr) (tb : Option Addr) (fl cx : Value) : Prop where
  at_ : ∀ a, a = e ∨ tb = some a → a ∈ M ∧ Apart env F [] Hs a ∧ s₀.heap.objs.size ≤ a ∧ a ≠ l1 ∧ a ≠ l2
  x : Exc h e tb fl cx

section
variable {w : World} {A A₀ : Around} {env : Env} {sc : Scope} {F M M' M₀ T : List Addr} {Hs : HL} {vs vs' : Vars} {wd : Wd} {s₀ s : Shared} {n : Nat} {h h' h'' : Heap} {pv : PV} {X : Value → Shared → Prop} {l1 l2 : Addr} {X1 X2 : List PyData}

theorem Old.refl : Old env sc F l1 l2 h h := fun _ _ _ _ _ _ e => e
theorem Old.trans (a : Old env sc F l1 l2 h h') (b : Old env sc F l1 l2 h' h'') : Old env sc F l1 l2 h h'' := fun c o h1 h2 h3 h4 e => b c o h1 h2 h3 h4 (a c o h1 h2 h3 h4 e)
theorem Old.of_kp (k : Kp h h') : Old env sc F l1 l2 h h' := fun b o _ _ _ _ e => k.get b o e
theorem Exc.keep {e : Addr} {tb : Option Addr} {fl cx : Value} (x : Exc h e tb fl cx) (k : ∀ a, a = e ∨ tb = some a → ∀ o, h.get? a = some o → h'.get? a = some o) : Exc h' e tb fl cx := by
  obtain ⟨oe, vs, h1, h2⟩ := x.obj
  refine ⟨⟨oe, vs, k e (.inl rfl) _ h1, h2⟩, fun t ht => ?_⟩
  obtain ⟨hne, ot, ts, h3, h4⟩ := x.tr t ht
  exact ⟨hne, ot, ts, k t (.inr ht) _ h3, h4⟩
theorem Ex.old {e : Addr} {tb : Option Addr} {fl cx : Value} (x : Ex env F Hs s₀ l1 l2 M h e tb fl cx) (o : Old env sc F l1 l2 h h') (hm : ∀ a ∈ M, a ∈ M') : Ex env F Hs s₀ l1 l2 M' h' e tb fl cx :=
  ⟨fun a ha => ⟨hm _ (x.at_ a ha).1, (x.at_ a ha).2⟩, x.x.keep fun a ha ob e => o a ob (x.at_ a ha).2.1.fr (Apart.own (x.at_ a ha).2.1) (x.at_ a ha).2.2.2.1 (x.at_ a ha).2.2.2.2 e⟩
theorem LR.keep {l : Addr} {xs : List PyData} (r : LR h M l xs) (k : ∀ o, h.get? l = some o → h'.get? l = some o) (hid : ∀ a o, (Hid h M).get? a = some o → (Hid h' M').get? a = some o) : LR h' M' l xs := by
  obtain ⟨ws, z, e, r⟩ := r
  exact ⟨ws, z, k _ e, r.hid hid⟩

/-- some addresses of the run's own turn, frames in their slots -/
theorem Sq.tch (S : Sq w A₀ env sc F M₀ Hs wd s₀ n l1 l2 vs X1 X2 M s) (T : List Addr) (hT : ∀ a ∈ T, a ∈ M ∧ Apart env F [] Hs a ∧ s₀.heap.objs.size ≤ a ∧ a ≠ l1 ∧ a ≠ l2)
    (k : ∀ b o, b ∉ T → b ∉ F → s.heap.get? b = some o → h'.get? b = some o) (kf : ∀ b o, b ∉ T → s.heap.get? b = some o → ∃ sl, h'.get? b = some { o with slots := sl }) (sz : s.heap.objs.size ≤ h'.objs.size)
    (hm : ∀ a ∈ M, a ∈ M') (hf : ∀ a ∈ M', a ∈ M ∨ s.heap.objs.size ≤ a) (mt : Mt h' M') (tk : Nat) : Sq w A₀ env sc F M₀ Hs wd s₀ n l1 l2 vs X1 X2 M' { s with heap := h', toks := tk } := by
  have I := S.si
  have G : Go T Hs F M s.heap Hs M' h' := ⟨fun a o ns _ nf e => k a o ns nf e, fun a _ ns _ o e => kf a o ns e, sz, hm, hf, [], by simp, fun _ x => no_mem x⟩
  have TM : ∀ a ∈ T, a ∈ M := fun a h => (hT a h).1
  have hid := G.hid I.ei.in2 TM
  have W : WInv w M' Hs wd h' := I.wi.mv hid (fun p hp o e => k _ o (fun h => (hT _ h).2.1.hl (List.mem_map.mpr ⟨p, hp, rfl⟩)) (fun h => I.fh _ h (List.mem_map.mpr ⟨p, hp, rfl⟩)) e) hm
  refine ⟨⟨I.ek, I.ai.go G (fun a ha x => (hT a x).2.1.fr ha) I.fh, W, I.ei.goS G W.hlM TM (fun x => (hT _ x).2.1.lc rfl) (fun x c e y => (hT c y).2.1.ce x c e rfl) (fun _ x => nomatch x), mt, I.fh⟩, S.go.trans G fun a h => .inr (hT a h).2.2.1, S.g1, S.g2, hm _ S.m1, hm _ S.m2, S.a1, S.a2, S.ne, S.c1.keep (fun o e => k _ o (fun h => (hT _ h).2.2.2.1 rfl) S.a1.fr e) hid, S.c2.keep (fun o e => k _ o (fun h => (hT _ h).2.2.2.2 rfl) S.a2.fr e) hid⟩
theorem Sq.kp (S : Sq w A₀ env sc F M₀ Hs wd s₀ n l1 l2 vs X1 X2 M s) (k : Kp s.heap h') (tk : Nat) : Sq w A₀ env sc F M₀ Hs wd s₀ n l1 l2 vs X1 X2 M { s with heap := h', toks := tk } :=
  S.tch [] (fun _ x => nomatch x) (fun b o _ _ e => k.get b o e) (fun b o _ e => ⟨o.slots, k.get b o e⟩) k.size (fun _ x => x) (fun _ x => .inl x) (S.si.mt.kp k) tk
theorem Sq.sto {x : Str} {v : Value} {Q : Unit → Shared → Prop} (S : Sq w A₀ env sc F M₀ Hs wd s₀ n l1 l2 vs X1 X2 M s) (ho : ownKind sc x = true) (r : Vr w.params s.heap M Hs [] v pv)
    (h : ∀ h' tk, Sq w A₀ env sc F M₀ Hs wd s₀ n l1 l2 ((x, pv) :: vs) X1 X2 M { s with heap := h', toks := tk } → Old env sc F l1 l2 s.heap h' → s.heap.objs.size ≤ h'.objs.size → Q () { s with heap := h', toks := tk }) : wpAny (model PG w) A (storeName env x v) Q X s := by
  refine store_snd S.si ho r fun h' tk p G I => ?_
  have hid := G.hid S.si.ei.in2 (own_M S.si)
  exact h h' tk ⟨I, S.go.trans' G, S.g1, S.g2, S.m1, S.m2, S.a1, S.a2, S.ne, S.c1.keep (fun o e => p.keep _ o (Apart.own S.a1) e) hid, S.c2.keep (fun o e => p.keep _ o (Apart.own S.a2) e) hid⟩ (fun b o _ nO _ _ e => p.keep b o nO e) p.size
/-- «x += 1» -/
theorem Sq.aug {x : Str} {i : Int} {px pq p : Pos} {ck} {Q : Flow → Shared → Prop} (S : Sq w A₀ env sc F M₀ Hs wd s₀ n l1 l2 vs X1 X2 M s) (ho : (okName x && ownKind sc x) = true) (e : vs.lookup x = some (.dat (.int i)))
    (h : ∀ h' tk, Sq w A₀ env sc F M₀ Hs wd s₀ n l1 l2 ((x, .dat (.int (i + 1))) :: vs) X1 X2 M { s with heap := h', toks := tk } → Old env sc F l1 l2 s.heap h' → s.heap.objs.size ≤ h'.objs.size → Q .next { s with heap := h', toks := tk }) :
    wpAny (model PG w) A (exec (.AugAssign (.Name x px) .Add (.Constant (.int 1) ck pq) p) env) Q X s := by
  rw [Bool.and_eq_true] at ho
  refine wpAny_AugAssign_Name (load_here S.si ho.1 e fun v r => ?_)
  obtain ⟨t, rfl⟩ := r.rd.int_inv
  refine wpAny_Constant_int (wpAny_iadd_int ?_)
  have S₁ := S.kp (Kp.refl _) (s.toks + 1 + 1)
  exact S₁.sto ho.2 (Rd.int _ _).vr fun h' tk S' o z => h h' tk S' o z
/-- one of the two lists grows -/
theorem Sq.app1 (S : Sq w A₀ env sc F M₀ Hs wd s₀ n l1 l2 vs X1 X2 M s) {new : Array Value} {z : Nat} {X1' : List PyData} (hl : h'.get? l1 = some ⟨.type "list", none, .seq new z, #[]⟩) (sb : Heap.SameBut l1 s.heap h') (r : RdA s.heap M new.toList X1') (tk : Nat) :
    Sq w A₀ env sc F M₀ Hs wd s₀ n l1 l2 vs X1' X2 M { s with heap := h', toks := tk } := by
  have p := sb_pv sb
  have I := S.si.pvt p (one_all ⟨S.m1, S.a1⟩) (fun _ x => x) (fun _ x => .inl x) (fun a x => by rw [sb.1]; exact S.si.mt a x) tk
  have G : Go [l1] Hs F M s.heap Hs M h' := p.go (fun _ x => x) (fun _ x => .inl x) _ _ _ fun _ x => x
  have hid := G.hid S.si.ei.in2 (one_all S.m1)
  exact ⟨I, S.go.trans G (one_all (.inr S.g1)), S.g1, S.g2, S.m1, S.m2, S.a1, S.a2, S.ne, ⟨new, z, hl, r.hid hid⟩, S.c2.keep (fun o e => sb.extBut _ _ (fun h => S.ne h.symm) e) hid⟩
theorem Sq.app2 (S : Sq w A₀ env sc F M₀ Hs wd s₀ n l1 l2 vs X1 X2 M s) {new : Array Value} {z : Nat} {X2' : List PyData} (hl : h'.get? l2 = some ⟨.type "list", none, .seq new z, #[]⟩) (sb : Heap.SameBut l2 s.heap h') (r : RdA s.heap M new.toList X2') (tk : Nat) :
    Sq w A₀ env sc F M₀ Hs wd s₀ n l1 l2 vs X1 X2' M { s with heap := h', toks := tk } := by
  have p := sb_pv sb
  have I := S.si.pvt p (one_all ⟨S.m2, S.a2⟩) (fun _ x => x) (fun _ x => .inl x) (fun a x => by rw [sb.1]; exact S.si.mt a x) tk
  have G : Go [l2] Hs F M s.heap Hs M h' := p.go (fun _ x => x) (fun _ x => .inl x) _ _ _ fun _ x => x
  have hid := G.hid S.si.ei.in2 (one_all S.m2)
  exact ⟨I, S.go.trans G (one_all (.inr S.g2)), S.g1, S.g2, S.m1, S.m2, S.a1, S.a2, S.ne, S.c1.keep (fun o e => sb.extBut _ _ S.ne e) hid, ⟨new, z, hl, r.hid hid⟩⟩
end
section
variable {w : World} {A A₀ : Around} {env : Env} {sc : Scope} {F M M' M₀ T : List Addr} {Hs : HL} {vs vs' : Vars} {wd : Wd} {s₀ s : Shared} {n : Nat} {h h' h'' : Heap} {pv : PV} {X : Value → Shared → Prop} {l1 l2 : Addr} {X1 X2 : List PyData}

theorem Sq.ext (S : Sq w A₀ env sc F M₀ Hs wd s₀ n l1 l2 vs X1 X2 M s) (e : ∀ x, vs'.lookup x = vs.lookup x) : Sq w A₀ env sc F M₀ Hs wd s₀ n l1 l2 vs' X1 X2 M s :=
  ⟨S.si.ext e, S.go, S.g1, S.g2, S.m1, S.m2, S.a1, S.a2, S.ne, S.c1, S.c2⟩
theorem Sq.big (S : Sq w A₀ env sc F M₀ Hs wd s₀ n l1 l2 vs X1 X2 M s) : s₀.heap.objs.size ≤ s.heap.objs.size := S.go.size
theorem Sq.fresh (S : Sq w A₀ env sc F M₀ Hs wd s₀ n l1 l2 vs X1 X2 M s) {a : Addr} (ha : s.heap.objs.size ≤ a) : Apart env F [] Hs a ∧ s₀.heap.objs.size ≤ a ∧ a ≠ l1 ∧ a ≠ l2 := by
  have old : ∀ {b}, b ∈ M → b ≠ a := fun hb e => absurd (S.si.mt _ hb) (Nat.not_lt.mpr (e ▸ ha))
  refine ⟨apart_new (s' := s) S.si ha (fun h => ?_) rfl, Nat.le_trans S.big ha, fun e => old S.m1 e.symm, fun e => old S.m2 e.symm⟩
  obtain ⟨p, hp, e⟩ := List.mem_map.mp h
  exact old (S.si.wi.hlM p hp) e
/-- an error was raised -/
theorem Sq.raised {e tk : Nat} {cx : Value} (S : Sq w A₀ env sc F M₀ Hs wd s₀ n l1 l2 vs X1 X2 M s) (k : Kp s.heap h') (ge : s.heap.objs.size ≤ e) (lt : e < h'.objs.size) (x : Exc h' e none .none cx) :
    Sq w A₀ env sc F M₀ Hs wd s₀ n l1 l2 vs X1 X2 (e :: M) { s with heap := h', toks := tk } ∧ Ex env F Hs s₀ l1 l2 (e :: M) h' e none .none cx := by
  refine ⟨S.tch [] (fun _ x => no_mem x) (fun b o _ _ e => k.get b o e) (fun b o _ e => ⟨o.slots, k.get b o e⟩) k.size (fun _ x => .tail _ x) (fun a x => ?_) (fun a x => ?_) tk, ⟨fun a ha => ?_, x⟩⟩
  · rcases List.mem_cons.mp x with rfl | x
    · exact .inr ge
    · exact .inl x
  · rcases List.mem_cons.mp x with rfl | x
    · exact lt
    · exact Nat.lt_of_lt_of_le (S.si.mt a x) k.size
  · rcases ha with rfl | ha
    · exact ⟨.head _, S.fresh ge⟩
    · cases ha
/-- the frames that stand behind a run -/
structure Fr2 (A : Around) (env : Env) (F : List Addr) (L : Addr) : Prop where
  fr : ∃ outer, A.frames = some (env :: outer)
  f : env.frame = some L
theorem Sq.note {e : Addr} {L : Addr} {cx : Value} {hs : Heap} {Q : Unit → Shared → Prop} (S : Sq w A₀ env sc F M₀ Hs wd s₀ n l1 l2 vs X1 X2 M s) (hA : A.frames = A₀.frames) (f : Fr2 A₀ env F L) (x : Ex env F Hs s₀ l1 l2 M s.heap e none .none cx) (o : Old env sc F l1 l2 hs s.heap) (he : hs.objs.size ≤ e)
    (hz : hs.objs.size ≤ s.heap.objs.size)
    (h : ∀ h' t M', Sq w A₀ env sc F M₀ Hs wd s₀ n l1 l2 vs X1 X2 M' { s with heap := h' } → Ex env F Hs s₀ l1 l2 M' h' e (some t) (rawInt L) cx → Old env sc F l1 l2 hs h' → hs.objs.size ≤ t → (∀ a ∈ M, a ∈ M') → s.heap.objs.size ≤ h'.objs.size → Q () { s with heap := h' }) :
    wpAny (model PG w) A (noteFrame (.ref e) env) Q X s := by
  obtain ⟨outer, hfr⟩ := f.fr
  obtain ⟨fs, e1, e2, e3⟩ := S.si.ai.frames
  rw [hfr] at e1
  cases e1
  refine note_any f.f (hA.trans hfr) (funFrames_of e3) x.x fun h' t ht lt sz k kf x' => ?_
  have hF : ∀ b, b ∉ F → b ∉ (env :: outer).filterMap (·.frame) := fun b hb => by rw [e2]; exact hb
  obtain ⟨ea1, ea2, ea3, ea4, ea5⟩ := x.at_ e (.inl rfl)
  have one : ∀ {b}, b ∉ [e] → b ≠ e := fun h q => h (by rw [q]; exact .head _)
  have hm : ∀ a ∈ M, a ∈ t :: M := fun _ x => .tail _ x
  have S' := S.tch [e] (one_all ⟨ea1, ea2, ea3, ea4, ea5⟩) (M' := t :: M) (fun b ob nT nF eb => k b ob (one nT) (hF b nF) eb) (fun b ob nT eb => kf b ob (one nT) eb) sz hm (fun a x => by
    rcases List.mem_cons.mp x with rfl | x
    · exact .inr ht
    · exact .inl x) (fun a x => by
    rcases List.mem_cons.mp x with rfl | x
    · exact lt
    · exact Nat.lt_of_lt_of_le (S.si.mt a x) sz) s.toks
  refine h h' t (t :: M) S' ⟨fun a ha => ?_, x'⟩ (fun b ob nF nO n1 n2 eb => k b ob (fun q => ?_) (hF b nF) (o b ob nF nO n1 n2 eb)) (Nat.le_trans hz ht) hm sz
  · rcases ha with rfl | ha
    · exact ⟨.tail _ ea1, ea2, ea3, ea4, ea5⟩
    · cases ha
      exact ⟨.head _, S.fresh ht⟩
  · have := Heap.lt_size eb
    rw [q] at this
    exact absurd this (Nat.not_lt.mpr he)
theorem Sq.flight {e t : Addr} {fl cx : Value} {hs : Heap} {fo : Option Addr} {Q : Unit → Shared → Prop} (S : Sq w A₀ env sc F M₀ Hs wd s₀ n l1 l2 vs X1 X2 M s) (x : Ex env F Hs s₀ l1 l2 M s.heap e (some t) fl cx) (o : Old env sc F l1 l2 hs s.heap) (ht : hs.objs.size ≤ t)
    (h : ∀ h', Sq w A₀ env sc F M₀ Hs wd s₀ n l1 l2 vs X1 X2 M { s with heap := h' } → Ex env F Hs s₀ l1 l2 M h' e (some t) (fo.elim .none fun f => rawInt f) cx → Old env sc F l1 l2 hs h' → h'.objs.size = s.heap.objs.size → Q () { s with heap := h' }) :
    wpAny (model PG w) A (setFlight (.ref e) fo) Q X s := by
  refine flight_to (f := fo) x.x fun h' sb x' => ?_
  obtain ⟨ta1, ta2, ta3, ta4, ta5⟩ := x.at_ t (.inr rfl)
  have one : ∀ {b}, b ∉ [t] → b ≠ t := fun h q => h (by rw [q]; exact .head _)
  have S' := S.tch [t] (one_all ⟨ta1, ta2, ta3, ta4, ta5⟩) (M' := M) (fun b ob nT _ eb => sb.extBut b ob (one nT) eb) (fun b ob nT eb => ⟨ob.slots, sb.extBut b ob (one nT) eb⟩) (Nat.le_of_eq sb.1.symm) (fun _ x => x) (fun _ x => .inl x) (fun a x => by rw [sb.1]; exact S.si.mt a x) s.toks
  refine h h' S' ⟨fun a ha => x.at_ a ha, x'⟩ (fun b ob nF nO n1 n2 eb => sb.extBut b ob (fun q => ?_) (o b ob nF nO n1 n2 eb)) sb.1
  have := Heap.lt_size eb
  rw [q] at this
  exact absurd this (Nat.not_lt.mpr ht)
/-- an error that leaves a loop -/
theorem Sq.loop_exc {e L : Addr} {cx : Value} {hs : Heap} {E : Value → Shared → Prop} (S : Sq w A₀ env sc F M₀ Hs wd s₀ n l1 l2 vs X1 X2 M s) (hA : A.frames = A₀.frames) (f : Fr2 A₀ env F L) (x : Ex env F Hs s₀ l1 l2 M s.heap e none .none cx) (o : Old env sc F l1 l2 hs s.heap) (he : hs.objs.size ≤ e) (hz : hs.objs.size ≤ s.heap.objs.size)
    (h : ∀ h' t M', Sq w A₀ env sc F M₀ Hs wd s₀ n l1 l2 vs X1 X2 M' { s with heap := h' } → Ex env F Hs s₀ l1 l2 M' h' e (some t) (rawInt L) cx → Old env sc F l1 l2 hs h' → hs.objs.size ≤ t → (∀ a ∈ M, a ∈ M') → s.heap.objs.size ≤ h'.objs.size → E (.ref e) { s with heap := h' }) :
    notedBy (model PG w) A env (cameBackBy (model PG w) A env E) (.ref e) s := by
  refine S.note hA f x o he hz fun h₁ t M₁ S₁ x₁ o₁ ht hm₁ sz₁ => ?_
  unfold cameBackBy
  refine wpAny_bind (field1 x₁.x ?_)
  rw [if_neg (by simp), f.f]
  exact S₁.flight x₁ o₁ ht fun h₂ S₂ x₂ o₂ sz₂ => h h₂ t M₁ S₂ x₂ o₂ ht hm₁ (by rw [sz₂]; exact sz₁)
end
section
variable {w : World} {A A₀ : Around} {env : Env} {sc : Scope} {F M M' M₀ T : List Addr} {Hs : HL} {vs vs' : Vars} {wd : Wd} {s₀ s : Shared} {n : Nat} {h h' h'' : Heap} {pv : PV} {X : Value → Shared → Prop} {l1 l2 : Addr} {X1 X2 : List PyData}

theorem Sq.idx {xl xi : Str} {p1 p2 p3 : Pos} {xs : List PyData} {k : Nat} {d : PyData} {Q : Value → Shared → Prop} (S : Sq w A₀ env sc F M₀ Hs wd s₀ n l1 l2 vs X1 X2 M s) (ho : (okName xl && okName xi) = true) (e1 : vs.lookup xl = some (.dat (.list xs))) (e2 : vs.lookup xi = some (.dat (.int k))) (hz : xs.length ≤ small) (hk : xs[k]? = some d)
    (hQ : ∀ v tk, Rd s.heap M v d → Q v { s with toks := tk }) : wpAny (model PG w) A (eval (.Subscript (.Name xl p1) (.Name xi p2) p3) env) Q X s := by
  rw [Bool.and_eq_true] at ho
  refine Subscript_ (name_here S.si ho.1 e1 fun v1 r1 => name_here S.si ho.2 e2 fun v2 r2 => ?_)
  refine sub_snd (r := .dat d) (ML := []) (Hs := Hs) rfl ?_ r1 r2 fun v tk r => hQ v tk r.rd
  show (if xs.length ≤ small then (idxD xs k).map PV.dat else none) = _
  rw [if_pos hz]
  unfold idxD
  rw [if_pos (by omega)]
  simp [hk]
theorem Sq.idx_out {xl xi : Str} {p1 p2 p3 : Pos} {xs : List PyData} {k : Nat} {Q : Value → Shared → Prop} (S : Sq w A₀ env sc F M₀ Hs wd s₀ n l1 l2 vs X1 X2 M s) (hh : Calm A s.heap) (ho : (okName xl && okName xi) = true) (e1 : vs.lookup xl = some (.dat (.list xs))) (e2 : vs.lookup xi = some (.dat (.int k))) (hk : xs.length ≤ k) (hz : k ≤ small)
    (hX : ∀ h' tk e cx, Kp s.heap h' → s.heap.objs.size ≤ e → e < h'.objs.size → Exc h' e none .none cx → (A.handled = none → cx = .none) → X (.ref e) { s with heap := h', toks := tk }) : wpAny (model PG w) A (eval (.Subscript (.Name xl p1) (.Name xi p2) p3) env) Q X s := by
  rw [Bool.and_eq_true] at ho
  refine Subscript_ (name_here S.si ho.1 e1 fun v1 r1 => name_here S.si ho.2 e2 fun v2 r2 => ?_)
  obtain ⟨l, ws, rfl, hl, _, _, rs⟩ := r1.rd.list_inv
  obtain ⟨t, rfl⟩ := r2.rd.int_inv
  have sz := rs.len
  rw [Array.length_toList] at sz
  exact tail_any hl.typeIs slot_list_getitem.lookup (getItem_out hh hl (by omega) hz hX) (subscripted_plain rfl _ _)
/-- quiet, or beside an error that stands -/
noncomputable def CalmX (A : Around) (env : Env) (F : List Addr) (Hs : HL) (s₀ : Shared) (l1 l2 : Addr) (M : List Addr) (h : Heap) : Prop := A.handled = none ∨ ∃ e t fl, A.handled = some (.ref e) ∧ Ex env F Hs s₀ l1 l2 M h e t fl .none
theorem CalmX.calm (c : CalmX A env F Hs s₀ l1 l2 M h) : Calm A h := c.imp id fun ⟨e, t, fl, h1, x⟩ => ⟨e, t, fl, h1, x.x⟩
theorem CalmX.old (c : CalmX A env F Hs s₀ l1 l2 M h) (o : Old env sc F l1 l2 h h') (hm : ∀ a ∈ M, a ∈ M') : CalmX A env F Hs s₀ l1 l2 M' h' := c.imp id fun ⟨e, t, fl, h1, x⟩ => ⟨e, t, fl, h1, x.old o hm⟩
/-- «while xl[xi] == xe: xi += 1» -/
theorem Sq.spin {xl xi xe : Str} {q1 q2 q3 q4 q5 q6 q7 q8 q9 : Pos} {ck} {xs : List PyData} {i : Nat} {d : PyData} {L : Addr} {Q : Flow → Shared → Prop} (S : Sq w A₀ env sc F M₀ Hs wd s₀ n l1 l2 vs X1 X2 M s) (ho : (okName xl && okName xi && okName xe && ownKind sc xi) = true) (n1 : xl ≠ xi) (n2 : xe ≠ xi)
    (e1 : vs.lookup xl = some (.dat (.list xs))) (e2 : vs.lookup xi = some (.dat (.int i))) (e3 : vs.lookup xe = some (.dat d)) (hz : xs.length ≤ 60) (hi : i ≤ xs.length) (hs : ∀ x ∈ xs, SeqAt.shaped x = true) (hd : SeqAt.shaped d = true)
    (hA : A.frames = A₀.frames) (hu : A.units + 300 < cLine) (f : Fr2 A₀ env F L) (cm : CalmX A env F Hs s₀ l1 l2 M s.heap)
    (hN : ∀ k M' h' tk, xs.drop k = (xs.drop i).dropWhile (fun x => PyData.eqv x d) → k < xs.length → Sq w A₀ env sc F M₀ Hs wd s₀ n l1 l2 ((xi, .dat (.int k)) :: vs) X1 X2 M' { s with heap := h', toks := tk } → Old env sc F l1 l2 s.heap h' → (∀ a ∈ M, a ∈ M') → s.heap.objs.size ≤ h'.objs.size → Q .next { s with heap := h', toks := tk })
    (hE : (xs.drop i).dropWhile (fun x => PyData.eqv x d) = [] → ∀ M' h' tk e t cx, Sq w A₀ env sc F M₀ Hs wd s₀ n l1 l2 ((xi, .dat (.int xs.length)) :: vs) X1 X2 M' { s with heap := h', toks := tk } → Ex env F Hs s₀ l1 l2 M' h' e (some t) (rawInt L) cx → (A.handled = none → cx = .none) → Old env sc F l1 l2 s.heap h' → (∀ a ∈ M, a ∈ M') → s.heap.objs.size ≤ h'.objs.size → s.heap.objs.size ≤ t → X (.ref e) { s with heap := h', toks := tk }) :
    wpAny (model PG w) A (exec (.While (.Compare (.Subscript (.Name xl q1) (.Name xi q2) q3) [.Eq] [.Name xe q4] q5) [.AugAssign (.Name xi q6) .Add (.Constant (.int 1) ck q7) q8] [] q9) env) Q X s := by
  have sm : small = 1000 := rfl
  simp only [Bool.and_eq_true] at ho
  obtain ⟨⟨⟨o1, o2⟩, o3⟩, o4⟩ := ho
  have look : ∀ {k : Nat} {x : Str}, x ≠ xi → ((xi, PV.dat (.int k)) :: vs).lookup x = vs.lookup x := fun h => by rw [lookup_cons', if_neg h]
  have lookI : ∀ {k : Nat}, ((xi, PV.dat (.int k)) :: vs).lookup xi = some (.dat (.int k)) := by intro k; rw [lookup_cons', if_pos rfl]
  refine wpAny_While (codeAny_whileLoop (fun m s' => ∃ (k : Nat) (M' : List Addr) (h' : Heap) (tk : Nat), s' = { s with heap := h', toks := tk } ∧ m = xs.length + 1 - k ∧ i ≤ k ∧ k ≤ xs.length ∧ (xs.drop k).dropWhile (fun x => PyData.eqv x d) = (xs.drop i).dropWhile (fun x => PyData.eqv x d) ∧
    Sq w A₀ env sc F M₀ Hs wd s₀ n l1 l2 ((xi, .dat (.int k)) :: vs) X1 X2 M' { s with heap := h', toks := tk } ∧ Old env sc F l1 l2 s.heap h' ∧ (∀ a ∈ M, a ∈ M') ∧ s.heap.objs.size ≤ h'.objs.size) ?_ (xs.length + 1 - i) ⟨i, M, s.heap, s.toks, rfl, rfl, Nat.le_refl _, hi, rfl, S.ext fun x => ?_, Old.refl, fun _ x => x, Nat.le_refl _⟩)
  rotate_left
  · rw [lookup_cons']
    split
    · rename_i q; rw [q, e2]
    · rfl
  rintro m _ ⟨k, M₁, h₁, tk₁, rfl, rfl, hik, hk, hdw, S₁, o₁, hm₁, sz₁⟩
  have cm₁ : CalmX A env F Hs s₀ l1 l2 M₁ h₁ := cm.old o₁ hm₁
  refine wpAny_isTrue_Compare1 ?_ rfl
  rcases Nat.lt_or_ge k xs.length with hlt | hge
  · have hx : xs[k]? = some xs[k] := by simp
    refine S₁.idx (by rw [o1, o2]; rfl) ((look n1).trans e1) lookI (by omega) hx fun v tk₂ r => ?_
    have S₂ := S₁.kp (Kp.refl _) tk₂
    refine name_here S₂.si o3 ((look n2).trans e3) fun v2 r2 => ?_
    have hc : cmpV .Eq (.dat xs[k]) (.dat d) = some (PyData.eqv xs[k] d) := by
      show (if _ then some _ else none) = _
      rw [if_pos (by rw [hs _ (List.getElem_mem hlt), hd]; rfl)]
    refine cmp_snd (ML := []) hu hc r.vr r2 (wpAny_truthy_bool ?_)
    cases q : PyData.eqv xs[k] d with
    | true =>
      rw [if_pos rfl]
      refine execs_one (S₂.aug (by rw [o2, o4]; rfl) lookI fun h₃ tk₃ S₃ o₃ z₃ => ?_)
      refine wpAny_execs_nil ⟨xs.length + 1 - (k + 1), by omega, k + 1, M₁, h₃, tk₃, rfl, rfl, by omega, hlt, ?_, S₃.ext fun x => ?_, o₁.trans o₃, hm₁, ?_⟩
      · rw [← hdw, List.drop_eq_getElem_cons hlt, List.dropWhile_cons_of_pos (by simpa using q)]
      · rw [lookup_cons', lookup_cons', lookup_cons']
        by_cases hq : x = xi
        · rw [if_pos hq, if_pos hq]; rfl
        · rw [if_neg hq, if_neg hq, if_neg hq]
      · exact Nat.le_trans sz₁ z₃
    | false =>
      rw [if_neg (by decide)]
      refine wpAny_execs_nil (hN k M₁ h₁ tk₂ ?_ hlt S₂ o₁ hm₁ sz₁)
      rw [← hdw, List.drop_eq_getElem_cons hlt, List.dropWhile_cons_of_neg (by simpa using q)]
  · have hk' : k = xs.length := Nat.le_antisymm hk hge
    subst hk'
    rw [List.drop_length, List.dropWhile_nil] at hdw
    refine S₁.idx_out cm₁.calm (by rw [o1, o2]; rfl) ((look n1).trans e1) lookI (Nat.le_refl _) (by omega) fun h₂ tk₂ e cx kp ge lt x hcx => ?_
    obtain ⟨S₂, x₂⟩ := S₁.raised (tk := tk₂) kp ge lt x
    refine S₂.loop_exc hA f x₂ (o₁.trans (Old.of_kp kp)) (Nat.le_trans sz₁ ge) (Nat.le_trans sz₁ kp.size) fun h₃ t M₃ S₃ x₃ o₃ ht hm₃ sz₃ => ?_
    exact hE hdw.symm M₃ h₃ tk₂ e t cx S₃ x₃ hcx o₃ (fun a ha => hm₃ _ (.tail _ (hm₁ a ha))) (Nat.le_trans sz₁ (Nat.le_trans kp.size sz₃)) ht
end
theorem pick_drop {α : Type} (xs : List α) (k : Nat) : ∀ b : Nat, ((List.range b).map (k + ·)).filterMap (xs[·]?) = (xs.drop k).take b := fun b => by
  rw [← pick_range, List.filterMap_map]
  congr 1
  funext i
  simp
theorem pickL_from {α : Type} (xs : List α) (k : Nat) (h : k ≤ xs.length) : pickL xs (some (k : Int)) none none = xs.drop k := by
  have e : sliceBounds (some (k : Int)) none none xs.length = ((k : Int), ((xs.length : Nat) : Int), 1) := by
    unfold sliceBounds
    simp only [Option.getD_none]
    have : max 0 (min (if (k : Int) < 0 then (k : Int) + (xs.length : Int) else (k : Int)) (xs.length : Int)) = (k : Int) := by
      rw [if_neg (by omega)]; omega
    simp [this]
  unfold pickL
  rw [e]
  simp only
  rw [sliceRange_one, pick_drop, List.take_of_length_le (by simp)]

section
variable {w : World} {A A₀ : Around} {env : Env} {sc : Scope} {F M M' M₀ T : List Addr} {Hs : HL} {vs vs' : Vars} {wd : Wd} {s₀ s : Shared} {n : Nat} {h h' h'' : Heap} {pv : PV} {X : Value → Shared → Prop} {l1 l2 : Addr} {X1 X2 : List PyData}

/-- «xm.extend(xl[xi:])» -/
theorem Sq.ext_gen {xm xl xi : Str} {q1 q2 q3 q4 q5 ap pos sp : Pos} {xs : List PyData} {k : Nat} {l : Addr} {xl0 : List PyData} {Q : Flow → Shared → Prop} (S : Sq w A₀ env sc F M₀ Hs wd s₀ n l1 l2 vs X1 X2 M s) (ho : (okName xm && okName xl && okName xi) = true) (hline : (ap.endLine == pos.line) = true)
    (e0 : vs.lookup xm = some (.obj l)) (e1 : vs.lookup xl = some (.dat (.list xs))) (e2 : vs.lookup xi = some (.dat (.int k))) (hz : xs.length ≤ 60) (hk : k ≤ xs.length) (c : LR s.heap M l xl0) (hz0 : xl0.length ≤ 200) (lM : l ∈ M)
    (hQ : ∀ h₁ h' tk new z, Kp s.heap h₁ → h'.get? l = some ⟨.type "list", none, .seq new z, #[]⟩ → Heap.SameBut l h₁ h' → RdA h₁ M new.toList (xl0 ++ xs.drop k) → Q .next { s with heap := h', toks := tk }) :
    wpAny (model PG w) A (exec (.Expr (.Call (.Attribute (.Name xm q1) "extend" ap) [.Subscript (.Name xl q2) (.Slice (some (.Name xi q3)) none none sp) q4] [] pos) q5) env) Q X s := by
  have sm : small = 1000 := rfl
  have szl : sizeLine = 2 ^ 24 := rfl
  simp only [Bool.and_eq_true] at ho
  refine wpAny_Expr_any ?_ (by unfold interactive; rw [S.si.ek.kind]; rfl) rfl
  refine meth_eval rfl hline (by show 1 < 30; decide) rfl (name_here S.si ho.1.1 e0 fun ov r => ?_)
  obtain rfl := r.shape
  obtain ⟨ws, z, hl, rw₀⟩ := c
  refine getMethod_builtin (T := "list") ⟨_, hl, rfl⟩ PySem.F.plainAttrs_list PySem.F.slot_list_extend PySem.F.type_list_extend (fun a e => by cases e; exact ⟨_, hl, rfl⟩) ?_
  refine callWith_of (P := fun _ => True) rfl (fun h _ => ⟨.machine, .inr (.inl rfl), Looks.of_pure rfl⟩) (evalArgs_any (wpAny_items_cons (Subscript_ (name_here S.si ho.1.2 e1 fun v1 r1 => ?_)) rfl) rfl)
  refine wpAny_Slice (wpAny_evalPart_some (name_here S.si ho.2 e2 fun v2 r2 => wpAny_evalPart_none (wpAny_evalPart_none ?_)))
  obtain ⟨t, rfl⟩ := r2.rd.int_inv
  refine slice_new (xs := xs) (lo := some (k : Int)) (hi := none) (st := none) S.si.mt (by omega) (by decide) r1.rd (.int _ _) .none .none fun D h₁ tk₁ hD k₁ r₁ => ?_
  rw [pickL_from xs k hk] at r₁
  refine wpAny_items_nil ⟨trivial, ?_⟩
  obtain ⟨b, bs, e, hb, _, hbM, rb⟩ := r₁.list_inv
  cases e
  obtain ⟨⟨cls, dd, data, sl⟩, hob, hc, k₂, hd⟩ := hb
  simp only at hc hd
  subst hc hd
  have rw₁ := rw₀.kp k₁
  have sz1 := rw₁.len
  have sz2 := rb.len
  simp only [Array.length_toList, List.length_drop] at sz1 sz2
  have hl₁ := k₁.get _ _ hl
  refine call_meets PySem.F.slot_list_extend ⟨_, hl₁, rfl⟩ PySem.F.entry_list_extend (PySem.F.args_list_extend_2 _ _) (extW l ws z D bs k₂ dd sl (by simp [Builtin.List.listTooLong]; omega) (by omega) (by omega)) ⟨hl₁, hob, ?_⟩
  obtain ⟨n', hd'⟩ := Obj.data_mapSeq (o := ⟨.type "list", none, .seq ws z, #[]⟩) rfl (fun x => x ++ bs)
  refine hQ h₁ _ tk₁ (ws ++ bs) n' k₁ ?_ (Heap.SameBut.update ..) ?_
  · rw [Heap.get?_update_self _ hl₁ (by simp [Obj.mapSeq, Obj.isFreed])]
    simp only [Obj.mapSeq] at hd' ⊢
    rw [hd']
  · rw [Array.toList_append]
    exact rw₁.app rb
end
theorem ns_ie (w : World) : nsIn (KF w) mainGlobals (Str.ofString "IndexError") = some none := by kernel_rfl!
theorem boot_ie : bootBuiltins (Str.ofString "IndexError") = some (.type "IndexError") := by decide +kernel
theorem ie_exc : isSubtype (.type "IndexError") (.type "BaseException") = pure true := by rw [isSubtype_type]; kernel_rfl
theorem ie_self : isSubtype (.type "IndexError") (.type "IndexError") = pure true := by rw [isSubtype_type]; kernel_rfl
theorem ie_nt : isSubtype (.type ((Manifest.find? "IndexError").elim "type" fun x => x.metatype)) (.type "tuple") = pure false := by
  rw [show (Manifest.find? "IndexError").elim "type" (fun x => x.metatype) = "type" by kernel_rfl, isSubtype_type]
  kernel_rfl

section
variable {w : World} {A A₀ : Around} {env : Env} {sc : Scope} {F M M' M₀ T : List Addr} {Hs : HL} {vs vs' : Vars} {wd : Wd} {s₀ s : Shared} {n : Nat} {h h' h'' : Heap} {pv : PV} {X : Value → Shared → Prop} {l1 l2 : Addr} {X1 X2 : List PyData}

/-- «xm.append(xe)» -/
theorem Sq.app_gen {xm xe : Str} {q1 q2 q5 ap pos : Pos} {l : Addr} {xl0 : List PyData} {d : PyData} {Q : Flow → Shared → Prop} (S : Sq w A₀ env sc F M₀ Hs wd s₀ n l1 l2 vs X1 X2 M s) (ho : (okName xm && okName xe) = true) (hline : (ap.endLine == pos.line) = true)
    (e0 : vs.lookup xm = some (.obj l)) (e1 : vs.lookup xe = some (.dat d)) (c : LR s.heap M l xl0) (hz0 : xl0.length ≤ 200)
    (hQ : ∀ h' new z, h'.get? l = some ⟨.type "list", none, .seq new z, #[]⟩ → Heap.SameBut l s.heap h' → RdA s.heap M new.toList (xl0 ++ [d]) → Q .next { s with heap := h' }) :
    wpAny (model PG w) A (exec (.Expr (.Call (.Attribute (.Name xm q1) "append" ap) [.Name xe q2] [] pos) q5) env) Q X s := by
  have szl : sizeLine = 2 ^ 24 := rfl
  simp only [Bool.and_eq_true] at ho
  refine wpAny_Expr_any ?_ (by unfold interactive; rw [S.si.ek.kind]; rfl) rfl
  refine meth_eval rfl hline (by show 1 < 30; decide) rfl (name_here S.si ho.1 e0 fun ov r => ?_)
  obtain rfl := r.shape
  obtain ⟨ws, z, hl, rw₀⟩ := c
  refine getMethod_builtin (T := "list") ⟨_, hl, rfl⟩ PySem.F.plainAttrs_list PySem.F.slot_list_append PySem.F.type_list_append (fun a e => by cases e; exact ⟨_, hl, rfl⟩) ?_
  refine callWith_of (P := fun _ => True) rfl (fun h _ => ⟨.machine, .inr (.inl rfl), Looks.of_pure rfl⟩) (evalArgs_any (wpAny_items_cons (name_here S.si ho.2 e1 fun v1 r1 => ?_) rfl) rfl)
  refine wpAny_items_nil ⟨trivial, ?_⟩
  have sz1 := rw₀.len
  simp only [Array.length_toList] at sz1
  refine call_meets PySem.F.slot_list_append ⟨_, hl, rfl⟩ PySem.F.entry_list_append (PySem.F.args_list_append_2 _ _) (list_append l ws z v1 (by omega)) ⟨hl, ?_⟩
  obtain ⟨n', hd'⟩ := Obj.data_mapSeq (o := ⟨.type "list", none, .seq ws z, #[]⟩) rfl (fun x => x.push v1)
  refine hQ _ (ws.push v1) n' ?_ (Heap.SameBut.update ..) ?_
  · rw [Heap.get?_update_self _ hl (by simp [Obj.mapSeq, Obj.isFreed])]
    simp only [Obj.mapSeq] at hd' ⊢
    rw [hd']
  · rw [Array.toList_push]
    exact rw₀.app (.cons r1.rd .nil)
/-- what stands behind the except clause -/
structure Names (sc : Scope) (vs : Vars) (l1 l2 : Addr) (xs ys : List PyData) : Prop where
  m1 : vs.lookup (Str.ofString "missing") = some (PV.obj l1)
  m2 : vs.lookup (Str.ofString "unexpected") = some (PV.obj l2)
  a : vs.lookup (Str.ofString "expected") = some (PV.dat (.list xs))
  b : vs.lookup (Str.ofString "actual") = some (PV.dat (.list ys))
/-- «except IndexError: missing.extend(expected[i:]); unexpected.extend(actual[j:]); break» -/
theorem Sq.handle {q1 q2 q3 q4 q5 q6 q7 q8 q9 q10 ap1 ap2 pos1 pos2 sp1 sp2 q11 q12 q13 : Pos} {xs ys : List PyData} {i j : Nat} {e L : Addr} {tb : Option Addr} {cx : Value} {Q : Flow → Shared → Prop} {E : Value → Shared → Prop}
    (S : Sq w A₀ env sc F M₀ Hs wd s₀ n l1 l2 vs X1 X2 M s) (hA : A.frames = A₀.frames) (f : Fr2 A₀ env F L) (hg : globV sc "IndexError" = true) (N : Names sc vs l1 l2 xs ys) (ei : vs.lookup (Str.ofString "i") = some (PV.dat (.int i))) (ej : vs.lookup (Str.ofString "j") = some (PV.dat (.int j)))
    (hzx : xs.length ≤ 60) (hzy : ys.length ≤ 60) (hi : i ≤ xs.length) (hj : j ≤ ys.length) (hz1 : X1.length ≤ 100) (hz2 : X2.length ≤ 100) (hl1 : (ap1.endLine == pos1.line) = true) (hl2 : (ap2.endLine == pos2.line) = true)
    (x : Ex env F Hs s₀ l1 l2 M s.heap e tb (tb.elim .none fun _ => rawInt L) cx)
    (hQ : ∀ M' h' tk, Sq w A₀ env sc F M₀ Hs wd s₀ n l1 l2 vs (X1 ++ xs.drop i) (X2 ++ ys.drop j) M' { s with heap := h', toks := tk } → Q .brk { s with heap := h', toks := tk }) :
    wpAny (model PG w) A (noteFrame (.ref e) env) (fun _ s₂ => wpAny (model PG w) A (setFlight (.ref e) none) (fun _ s₃ => wpAny (model PG w) A (handleBy (.ref e) env [.ExceptHandler (some (.Name "IndexError" q1)) none
      [.Expr (.Call (.Attribute (.Name "missing" q2) "extend" ap1) [.Subscript (.Name "expected" q3) (.Slice (some (.Name "i" q4)) none none sp1) q5] [] pos1) q6,
       .Expr (.Call (.Attribute (.Name "unexpected" q7) "extend" ap2) [.Subscript (.Name "actual" q8) (.Slice (some (.Name "j" q9)) none none sp2) q10] [] pos2) q11, .Break q12] q13]) Q E s₃) E s₂) E s := by
  -- noted
  have go : ∀ {M₁ : List Addr} {h₁ : Heap} {t : Addr}, Sq w A₀ env sc F M₀ Hs wd s₀ n l1 l2 vs X1 X2 M₁ { s with heap := h₁ } → Ex env F Hs s₀ l1 l2 M₁ h₁ e (some t) (rawInt L) cx →
      wpAny (model PG w) A (setFlight (.ref e) none) (fun _ s₃ => wpAny (model PG w) A (handleBy (.ref e) env [.ExceptHandler (some (.Name "IndexError" q1)) none
      [.Expr (.Call (.Attribute (.Name "missing" q2) "extend" ap1) [.Subscript (.Name "expected" q3) (.Slice (some (.Name "i" q4)) none none sp1) q5] [] pos1) q6,
       .Expr (.Call (.Attribute (.Name "unexpected" q7) "extend" ap2) [.Subscript (.Name "actual" q8) (.Slice (some (.Name "j" q9)) none none sp2) q10] [] pos2) q11, .Break q12] q13]) Q E s₃) E { s with heap := h₁ } := by
    intro M₁ h₁ t S₁ x₁
    refine S₁.flight (fo := none) (hs := { objs := #[] }) x₁ (fun b o _ _ _ _ e => by cases e) (Nat.zero_le _) fun h₂ S₂ x₂ _ _ => ?_
    refine wpAny_handleBy_builtin (X := "IndexError") (T := "IndexError") (b := true) ie_exc ie_nt ie_self ?_
    refine name_eval (by decide) (glob_bt S₂.si.wi S₂.si.ek hg (ns_ie w) boot_ie (by decide) ⟨rfl, ?_, ?_⟩)
    · obtain ⟨oe, ve, h1, h2, _⟩ := x₂.x.obj
      exact ⟨oe, h1, h2⟩
    rw [if_pos rfl]
    refine S₂.flight (fo := none) (hs := { objs := #[] }) x₂ (fun b o _ _ _ _ e => by cases e) (Nat.zero_le _) fun h₃ S₃ x₃ _ _ => ?_
    refine execs_one (S₃.ext_gen (by decide) hl1 N.m1 N.a ei hzx hi S₃.c1 (by omega) S₃.m1 fun g₁ h₄ tk new z k hl sb r => ?_)
    have S₄ := (S₃.kp k tk).app1 (h' := h₄) hl sb r tk
    refine execs_one (S₄.ext_gen (by decide) hl2 N.m2 N.b ej hzy hj S₄.c2 (by omega) S₄.m2 fun g₂ h₅ tk' new' z' k' hl' sb' r' => ?_)
    have S₅ := (S₄.kp k' tk').app2 (h' := h₅) hl' sb' r' tk'
    exact execs_one (wpAny_Break (hQ _ h₅ tk' S₅))
  induction tb with
  | none => exact S.note (hs := { objs := #[] }) hA f x (fun b o _ _ _ _ e => by cases e) (Nat.zero_le _) (Nat.zero_le _) fun h₁ t M₁ S₁ x₁ _ _ _ _ => go S₁ x₁
  | some t => exact note_flying f.f x.x (go S x)
end
/-! the body of sorted_list_difference: its positions by number -/
noncomputable def sldD : List Str × List Stmt × Scope := ((defAll PG.main.body "sorted_list_difference").getD ([], [], ⟨.module, [], false, false, []⟩))
theorem sld_pos : ∃ q : Nat → Pos, sldD.2.1 = [.Assign [.Name "i" (q 0), .Name "j" (q 1)] (.Constant (.int 0) 0 (q 2)) (q 3), .Assign [.Name "missing" (q 4)] (.List [] (q 5)) (q 6), .Assign [.Name "unexpected" (q 7)] (.List [] (q 8)) (q 9), (.While (.Constant (.bool true) 0 (q 10)) [(.Try [.Assign [.Name "e" (q 11)] (.Subscript (.Name "expected" (q 12)) (.Name "i" (q 13)) (q 14)) (q 15), .Assign [.Name "a" (q 16)] (.Subscript (.Name "actual" (q 17)) (.Name "j" (q 18)) (q 19)) (q 20), (.If (.Compare (.Name "e" (q 21)) [.Lt] [.Name "a" (q 22)] (q 23)) [.Expr (.Call (.Attribute (.Name "missing" (q 24)) "append" (q 25)) [.Name "e" (q 26)] [] (q 27)) (q 28), .AugAssign (.Name "i" (q 29)) .Add (.Constant (.int 1) 0 (q 30)) (q 31), .While (.Compare (.Subscript (.Name "expected" (q 32)) (.Name "i" (q 33)) (q 34)) [.Eq] [.Name "e" (q 35)] (q 36)) [.AugAssign (.Name "i" (q 37)) .Add (.Constant (.int 1) 0 (q 38)) (q 39)] [] (q 40)] [.If (.Compare (.Name "e" (q 41)) [.Gt] [.Name "a" (q 42)] (q 43)) [.Expr (.Call (.Attribute (.Name "unexpected" (q 44)) "append" (q 45)) [.Name "a" (q 46)] [] (q 47)) (q 48), .AugAssign (.Name "j" (q 49)) .Add (.Constant (.int 1) 0 (q 50)) (q 51), .While (.Compare (.Subscript (.Name "actual" (q 52)) (.Name "j" (q 53)) (q 54)) [.Eq] [.Name "a" (q 55)] (q 56)) [.AugAssign (.Name "j" (q 57)) .Add (.Constant (.int 1) 0 (q 58)) (q 59)] [] (q 60)] [.AugAssign (.Name "i" (q 61)) .Add (.Constant (.int 1) 0 (q 62)) (q 63), (.Try [.While (.Compare (.Subscript (.Name "expected" (q 64)) (.Name "i" (q 65)) (q 66)) [.Eq] [.Name "e" (q 67)] (q 68)) [.AugAssign (.Name "i" (q 69)) .Add (.Constant (.int 1) 0 (q 70)) (q 71)] [] (q 72)] [] [] [.AugAssign (.Name "j" (q 73)) .Add (.Constant (.int 1) 0 (q 74)) (q 75), .While (.Compare (.Subscript (.Name "actual" (q 76)) (.Name "j" (q 77)) (q 78)) [.Eq] [.Name "a" (q 79)] (q 80)) [.AugAssign (.Name "j" (q 81)) .Add (.Constant (.int 1) 0 (q 82)) (q 83)] [] (q 84)] (q 85))] (q 86)] (q 87))] [(.ExceptHandler (some (.Name "IndexError" (q 88))) none [.Expr (.Call (.Attribute (.Name "missing" (q 89)) "extend" (q 90)) [.Subscript (.Name "expected" (q 91)) (.Slice (some (.Name "i" (q 92))) none none (q 93)) (q 94)] [] (q 95)) (q 96), .Expr (.Call (.Attribute (.Name "unexpected" (q 97)) "extend" (q 98)) [.Subscript (.Name "actual" (q 99)) (.Slice (some (.Name "j" (q 100))) none none (q 101)) (q 102)] [] (q 103)) (q 104), .Break (q 105)] (q 106))] [] [] (q 107))] [] (q 108)), .Return (some (.Tuple [.Name "missing" (q 109), .Name "unexpected" (q 110)] 0 (q 111))) (q 112)] ∧ ((q 25).endLine == (q 27).line) = true ∧ ((q 45).endLine == (q 47).line) = true ∧ ((q 90).endLine == (q 95).line) = true ∧ ((q 98).endLine == (q 103).line) = true := by
  generalize hb : sldD = d
  conv at hb =>
    lhs
    reduce
  subst hb
  exact ⟨fun k => [_, _, _, _, _, _, _, _, _, _, _, _, _, _, _, _, _, _, _, _, _, _, _, _, _, _, _, _, _, _, _, _, _, _, _, _, _, _, _, _, _, _, _, _, _, _, _, _, _, _, _, _, _, _, _, _, _, _, _, _, _, _, _, _, _, _, _, _, _, _, _, _, _, _, _, _, _, _, _, _, _, _, _, _, _, _, _, _, _, _, _, _, _, _, _, _, _, _, _, _, _, _, _, _, _, _, _, _, _, _, _, _, _].getD k ⟨0, 0, 0, 0⟩, rfl, rfl, rfl, rfl, rfl⟩
noncomputable def Qp : Nat → Pos := sld_pos.choose
noncomputable abbrev cLt : List Stmt := [.Expr (.Call (.Attribute (.Name "missing" (Qp 24)) "append" (Qp 25)) [.Name "e" (Qp 26)] [] (Qp 27)) (Qp 28), .AugAssign (.Name "i" (Qp 29)) .Add (.Constant (.int 1) 0 (Qp 30)) (Qp 31), .While (.Compare (.Subscript (.Name "expected" (Qp 32)) (.Name "i" (Qp 33)) (Qp 34)) [.Eq] [.Name "e" (Qp 35)] (Qp 36)) [.AugAssign (.Name "i" (Qp 37)) .Add (.Constant (.int 1) 0 (Qp 38)) (Qp 39)] [] (Qp 40)]
noncomputable abbrev cGt : List Stmt := [.Expr (.Call (.Attribute (.Name "unexpected" (Qp 44)) "append" (Qp 45)) [.Name "a" (Qp 46)] [] (Qp 47)) (Qp 48), .AugAssign (.Name "j" (Qp 49)) .Add (.Constant (.int 1) 0 (Qp 50)) (Qp 51), .While (.Compare (.Subscript (.Name "actual" (Qp 52)) (.Name "j" (Qp 53)) (Qp 54)) [.Eq] [.Name "a" (Qp 55)] (Qp 56)) [.AugAssign (.Name "j" (Qp 57)) .Add (.Constant (.int 1) 0 (Qp 58)) (Qp 59)] [] (Qp 60)]
noncomputable abbrev cFin : List Stmt := [.AugAssign (.Name "j" (Qp 73)) .Add (.Constant (.int 1) 0 (Qp 74)) (Qp 75), .While (.Compare (.Subscript (.Name "actual" (Qp 76)) (.Name "j" (Qp 77)) (Qp 78)) [.Eq] [.Name "a" (Qp 79)] (Qp 80)) [.AugAssign (.Name "j" (Qp 81)) .Add (.Constant (.int 1) 0 (Qp 82)) (Qp 83)] [] (Qp 84)]
noncomputable abbrev cTryf : Stmt := .Try [.While (.Compare (.Subscript (.Name "expected" (Qp 64)) (.Name "i" (Qp 65)) (Qp 66)) [.Eq] [.Name "e" (Qp 67)] (Qp 68)) [.AugAssign (.Name "i" (Qp 69)) .Add (.Constant (.int 1) 0 (Qp 70)) (Qp 71)] [] (Qp 72)] [] [] cFin (Qp 85)
noncomputable abbrev cEq : List Stmt := [.AugAssign (.Name "i" (Qp 61)) .Add (.Constant (.int 1) 0 (Qp 62)) (Qp 63), cTryf]
noncomputable abbrev cIf : Stmt := .If (.Compare (.Name "e" (Qp 21)) [.Lt] [.Name "a" (Qp 22)] (Qp 23)) cLt [.If (.Compare (.Name "e" (Qp 41)) [.Gt] [.Name "a" (Qp 42)] (Qp 43)) cGt cEq (Qp 86)] (Qp 87)
noncomputable abbrev cHnd : ExceptHandler := .ExceptHandler (some (.Name "IndexError" (Qp 88))) none [.Expr (.Call (.Attribute (.Name "missing" (Qp 89)) "extend" (Qp 90)) [.Subscript (.Name "expected" (Qp 91)) (.Slice (some (.Name "i" (Qp 92))) none none (Qp 93)) (Qp 94)] [] (Qp 95)) (Qp 96), .Expr (.Call (.Attribute (.Name "unexpected" (Qp 97)) "extend" (Qp 98)) [.Subscript (.Name "actual" (Qp 99)) (.Slice (some (.Name "j" (Qp 100))) none none (Qp 101)) (Qp 102)] [] (Qp 103)) (Qp 104), .Break (Qp 105)] (Qp 106)
noncomputable abbrev cTry : Stmt := .Try [.Assign [.Name "e" (Qp 11)] (.Subscript (.Name "expected" (Qp 12)) (.Name "i" (Qp 13)) (Qp 14)) (Qp 15), .Assign [.Name "a" (Qp 16)] (.Subscript (.Name "actual" (Qp 17)) (.Name "j" (Qp 18)) (Qp 19)) (Qp 20), cIf] [cHnd] [] [] (Qp 107)
noncomputable abbrev cLoop : Stmt := .While (.Constant (.bool true) 0 (Qp 10)) [cTry] [] (Qp 108)
noncomputable abbrev cAll : List Stmt := [.Assign [.Name "i" (Qp 0), .Name "j" (Qp 1)] (.Constant (.int 0) 0 (Qp 2)) (Qp 3), .Assign [.Name "missing" (Qp 4)] (.List [] (Qp 5)) (Qp 6), .Assign [.Name "unexpected" (Qp 7)] (.List [] (Qp 8)) (Qp 9), cLoop, .Return (some (.Tuple [.Name "missing" (Qp 109), .Name "unexpected" (Qp 110)] 0 (Qp 111))) (Qp 112)]
theorem code_eq : sldD.2.1 = cAll := sld_pos.choose_spec.1
theorem ln1 : ((Qp 25).endLine == (Qp 27).line) = true := sld_pos.choose_spec.2.1
theorem ln2 : ((Qp 45).endLine == (Qp 47).line) = true := sld_pos.choose_spec.2.2.1
theorem ln3 : ((Qp 90).endLine == (Qp 95).line) = true := sld_pos.choose_spec.2.2.2.1
theorem ln4 : ((Qp 98).endLine == (Qp 103).line) = true := sld_pos.choose_spec.2.2.2.2
theorem lk {x y : Str} {p : PV} {vs : Vars} (h : x ≠ y) : ((y, p) :: vs).lookup x = vs.lookup x := by rw [lookup_cons', if_neg h]
theorem lk0 {x : Str} {p : PV} {vs : Vars} : ((x, p) :: vs).lookup x = some p := by rw [lookup_cons', if_pos rfl]
section
variable {w : World} {A A₀ : Around} {env : Env} {sc : Scope} {F M M' M₀ T : List Addr} {Hs : HL} {vs vs' : Vars} {wd : Wd} {s₀ s : Shared} {n : Nat} {h h' h'' : Heap} {pv : PV} {X : Value → Shared → Prop} {l1 l2 : Addr} {X1 X2 : List PyData}

/-- an error that flies on through this frame -/
theorem Sq.flying_on {A' : Around} {e t L : Addr} {cx : Value} {hs : Heap} {E : Value → Shared → Prop} (S : Sq w A₀ env sc F M₀ Hs wd s₀ n l1 l2 vs X1 X2 M s) (hf : env.frame = some L) (x : Ex env F Hs s₀ l1 l2 M s.heap e (some t) (rawInt L) cx) (o : Old env sc F l1 l2 hs s.heap) (ht : hs.objs.size ≤ t)
    (h : ∀ h', Sq w A₀ env sc F M₀ Hs wd s₀ n l1 l2 vs X1 X2 M { s with heap := h' } → Ex env F Hs s₀ l1 l2 M h' e (some t) (rawInt L) cx → Old env sc F l1 l2 hs h' → E (.ref e) { s with heap := h' }) :
    notedBy (model PG w) A' env (cameBackBy (model PG w) A env E) (.ref e) s := by
  refine note_flying hf x.x ?_
  unfold cameBackBy
  refine wpAny_bind (field1 x.x ?_)
  rw [if_neg (by simp), hf]
  exact S.flight x o ht fun h' S' x' o' _ => h h' S' x' o'
/-- what the passes know -/
structure Know (w : World) (A A₀ : Around) (env : Env) (sc : Scope) (F : List Addr) (L : Addr) (xs ys : List PyData) : Prop where
  hh : A.handled = none
  hA : A.frames = A₀.frames
  hu : A.units + 300 < cLine
  f : Fr2 A₀ env F L
  zx : xs.length ≤ 60
  zy : ys.length ≤ 60
  sx : ∀ x ∈ xs, SeqAt.shaped x = true
  sy : ∀ x ∈ ys, SeqAt.shaped x = true
  oi : ownKind sc "i" = true
  oj : ownKind sc "j" = true
  oe : ownKind sc "e" = true
  oa : ownKind sc "a" = true
  hg : globV sc "IndexError" = true
  hlt : ∀ d ∈ xs, ∀ f ∈ ys, ltD d f = some (ltK d f) ∧ ltD f d = some (ltK f d)
noncomputable abbrev dw (xs : List PyData) (d : PyData) : List PyData := xs.dropWhile fun x => PyData.eqv x d
theorem drop_nil_len {α : Type} {xs : List α} {i : Nat} (h : xs.drop i = []) : xs.length ≤ i := List.drop_eq_nil_iff.mp h
theorem drop_ne {α : Type} {xs r : List α} {i : Nat} (hi : i < xs.length) (h : xs.drop i = r) : r ≠ [] := fun e => absurd (drop_nil_len (h.trans e)) (Nat.not_le.mpr hi)
theorem drop_cons_get {α : Type} {xs r : List α} {i : Nat} {d : α} (h : xs.drop i = d :: r) : xs[i]? = some d ∧ i < xs.length ∧ xs.drop (i + 1) = r := by
  have hl : i < xs.length := Nat.not_le.mp fun q => by rw [List.drop_eq_nil_iff.mpr q] at h; cases h
  rw [List.drop_eq_getElem_cons hl] at h
  injection h with h1 h2
  exact ⟨by rw [List.getElem?_eq_getElem hl, h1], hl, h2⟩
variable {xs ys : List PyData} {L : Addr} {i j : Nat} {d1 d2 : PyData} {ra rb Z1 Z2 : List PyData}
/-- where the passes stand -/
structure At (w : World) (A₀ : Around) (env : Env) (sc : Scope) (F M₀ : List Addr) (Hs : HL) (wd : Wd) (s₀ : Shared) (n : Nat) (l1 l2 : Addr) (xs ys : List PyData) (i j : Nat) (vs : Vars) (X1 X2 : List PyData) (M : List Addr) (s : Shared) : Prop where
  S : Sq w A₀ env sc F M₀ Hs wd s₀ n l1 l2 vs X1 X2 M s
  N : Names sc vs l1 l2 xs ys
  ei : vs.lookup (Str.ofString "i") = some (PV.dat (.int i))
  ej : vs.lookup (Str.ofString "j") = some (PV.dat (.int j))
  hi : i ≤ xs.length
  hj : j ≤ ys.length
theorem At.re {X1' X2' : List PyData} {s' : Shared} (a : At w A₀ env sc F M₀ Hs wd s₀ n l1 l2 xs ys i j vs X1 X2 M s) (S : Sq w A₀ env sc F M₀ Hs wd s₀ n l1 l2 vs X1' X2' M' s') : At w A₀ env sc F M₀ Hs wd s₀ n l1 l2 xs ys i j vs X1' X2' M' s' := ⟨S, a.N, a.ei, a.ej, a.hi, a.hj⟩
theorem Names.cons {x : Str} {p : PV} (N : Names sc vs l1 l2 xs ys) (h : x ≠ Str.ofString "missing" ∧ x ≠ Str.ofString "unexpected" ∧ x ≠ Str.ofString "expected" ∧ x ≠ Str.ofString "actual") : Names sc ((x, p) :: vs) l1 l2 xs ys :=
  ⟨(lk h.1.symm).trans N.m1, (lk h.2.1.symm).trans N.m2, (lk h.2.2.1.symm).trans N.a, (lk h.2.2.2.symm).trans N.b⟩
theorem At.toI {X1' X2' : List PyData} {s' : Shared} {k : Nat} (a : At w A₀ env sc F M₀ Hs wd s₀ n l1 l2 xs ys i j vs X1 X2 M s) (S : Sq w A₀ env sc F M₀ Hs wd s₀ n l1 l2 ((Str.ofString "i", .dat (.int k)) :: vs) X1' X2' M' s') (hk : k ≤ xs.length) : At w A₀ env sc F M₀ Hs wd s₀ n l1 l2 xs ys k j ((Str.ofString "i", .dat (.int k)) :: vs) X1' X2' M' s' :=
  ⟨S, a.N.cons (by decide), lk0, (lk (by decide)).trans a.ej, hk, a.hj⟩
theorem At.toJ {X1' X2' : List PyData} {s' : Shared} {k : Nat} (a : At w A₀ env sc F M₀ Hs wd s₀ n l1 l2 xs ys i j vs X1 X2 M s) (S : Sq w A₀ env sc F M₀ Hs wd s₀ n l1 l2 ((Str.ofString "j", .dat (.int k)) :: vs) X1' X2' M' s') (hk : k ≤ ys.length) : At w A₀ env sc F M₀ Hs wd s₀ n l1 l2 xs ys i k ((Str.ofString "j", .dat (.int k)) :: vs) X1' X2' M' s' :=
  ⟨S, a.N.cons (by decide), (lk (by decide)).trans a.ei, lk0, a.hi, hk⟩
theorem At.toV {X1' X2' : List PyData} {s' : Shared} {x : Str} {p : PV} (a : At w A₀ env sc F M₀ Hs wd s₀ n l1 l2 xs ys i j vs X1 X2 M s) (S : Sq w A₀ env sc F M₀ Hs wd s₀ n l1 l2 ((x, p) :: vs) X1' X2' M' s') (h : x ≠ Str.ofString "missing" ∧ x ≠ Str.ofString "unexpected" ∧ x ≠ Str.ofString "expected" ∧ x ≠ Str.ofString "actual") (h1 : Str.ofString "i" ≠ x) (h2 : Str.ofString "j" ≠ x) : At w A₀ env sc F M₀ Hs wd s₀ n l1 l2 xs ys i j ((x, p) :: vs) X1' X2' M' s' :=
  ⟨S, a.N.cons h, (lk h1).trans a.ei, (lk h2).trans a.ej, a.hi, a.hj⟩
theorem Know.ki (K : Know w A A₀ env sc F L xs ys) : (okName (Str.ofString "expected") && okName (Str.ofString "i") && okName (Str.ofString "e") && ownKind sc (Str.ofString "i")) = true := by rw [K.oi]; decide
theorem Know.kj (K : Know w A A₀ env sc F L xs ys) : (okName (Str.ofString "actual") && okName (Str.ofString "j") && okName (Str.ofString "a") && ownKind sc (Str.ofString "j")) = true := by rw [K.oj]; decide
theorem Know.ai (K : Know w A A₀ env sc F L xs ys) : (okName (Str.ofString "i") && ownKind sc (Str.ofString "i")) = true := by rw [K.oi]; decide
theorem Know.aj (K : Know w A A₀ env sc F L xs ys) : (okName (Str.ofString "j") && ownKind sc (Str.ofString "j")) = true := by rw [K.oj]; decide
/-- «j += 1; while actual[j] == a: j += 1» -/
theorem At.fin {A' : Around} {Q : Flow → Shared → Prop} {E : Value → Shared → Prop} (hA : A'.frames = A₀.frames) (hu : A'.units + 300 < cLine) (K : Know w A A₀ env sc F L xs ys) (a : At w A₀ env sc F M₀ Hs wd s₀ n l1 l2 xs ys i j vs X1 X2 M s) (ea : vs.lookup (Str.ofString "a") = some (PV.dat d2)) (hd2 : SeqAt.shaped d2 = true) (hj : j + 1 ≤ ys.length) (cm : CalmX A' env F Hs s₀ l1 l2 M s.heap)
    (hN : ∀ k M' h' tk vs', ys.drop k = dw (ys.drop (j + 1)) d2 → k < ys.length → At w A₀ env sc F M₀ Hs wd s₀ n l1 l2 xs ys i k vs' X1 X2 M' { s with heap := h', toks := tk } → Old env sc F l1 l2 s.heap h' → (∀ a ∈ M, a ∈ M') → Q .next { s with heap := h', toks := tk })
    (hE : dw (ys.drop (j + 1)) d2 = [] → ∀ M' h' tk vs' e t cx, At w A₀ env sc F M₀ Hs wd s₀ n l1 l2 xs ys i ys.length vs' X1 X2 M' { s with heap := h', toks := tk } → Ex env F Hs s₀ l1 l2 M' h' e (some t) (rawInt L) cx → E (.ref e) { s with heap := h', toks := tk }) : wpAny (model PG w) A' (execs cFin env) Q E s := by
  refine execs_one (a.S.aug K.aj a.ej fun h₃ tk₃ S₃ o₃ z₃ => ?_)
  have a₃ := a.toJ (k := j + 1) S₃ hj
  refine execs_one (S₃.spin (i := j + 1) K.kj (by decide) (by decide) a₃.N.b lk0 ((lk (by decide)).trans ea) K.zy hj K.sy hd2 hA hu K.f (cm.old o₃ fun _ x => x) (fun k M' h' tk a1 a2 a3 o₄ hm _ => ?_) fun a0 M' h' tk e t cx a1 a2 _ _ _ _ _ => ?_)
  · exact wpAny_execs_nil (hN k M' h' tk _ a1 a2 (a₃.toJ a3 (Nat.le_of_lt a2)) (o₃.trans o₄) hm)
  · exact hE a0 M' h' tk _ e t cx (a₃.toJ a1 (Nat.le_refl _)) a2
inductive TfN (w : World) (A₀ : Around) (env : Env) (sc : Scope) (F M₀ : List Addr) (Hs : HL) (wd : Wd) (s₀ : Shared) (n : Nat) (l1 l2 : Addr) (xs ys : List PyData) (j : Nat) (vs : Vars) (X1 X2 : List PyData) (s : Shared) (r : List PyData) (f : Flow) (s' : Shared) : Prop
  | mk {k M' h' tk} : f = .next → s' = { s with heap := h', toks := tk } → xs.drop k = r → k < xs.length → At w A₀ env sc F M₀ Hs wd s₀ n l1 l2 xs ys k j ((Str.ofString "i", .dat (.int k)) :: vs) X1 X2 M' { s with heap := h', toks := tk } → TfN w A₀ env sc F M₀ Hs wd s₀ n l1 l2 xs ys j vs X1 X2 s r f s'
inductive TfE (w : World) (A₀ : Around) (env : Env) (sc : Scope) (F M₀ : List Addr) (Hs : HL) (wd : Wd) (s₀ : Shared) (n : Nat) (l1 l2 L : Addr) (xs ys : List PyData) (j : Nat) (vs : Vars) (X1 X2 : List PyData) (s : Shared) (v : Value) (s' : Shared) : Prop
  | mk {e t M' h' tk} : v = .ref e → s' = { s with heap := h', toks := tk } → At w A₀ env sc F M₀ Hs wd s₀ n l1 l2 xs ys xs.length j ((Str.ofString "i", .dat (.int xs.length)) :: vs) X1 X2 M' { s with heap := h', toks := tk } → Ex env F Hs s₀ l1 l2 M' h' e (some t) (rawInt L) .none → TfE w A₀ env sc F M₀ Hs wd s₀ n l1 l2 L xs ys j vs X1 X2 s v s'
/-- «try: while expected[i] == e: i += 1 finally: j += 1; while actual[j] == a: j += 1» -/
theorem At.tryf {Q : Flow → Shared → Prop} {E : Value → Shared → Prop} (K : Know w A A₀ env sc F L xs ys) (a : At w A₀ env sc F M₀ Hs wd s₀ n l1 l2 xs ys i j vs X1 X2 M s) (ee : vs.lookup (Str.ofString "e") = some (PV.dat d1)) (ea : vs.lookup (Str.ofString "a") = some (PV.dat d2)) (hd1 : SeqAt.shaped d1 = true) (hd2 : SeqAt.shaped d2 = true) (hj : j + 1 ≤ ys.length)
    (hN : ∀ i' j' M' h' tk vs', xs.drop i' = dw (xs.drop i) d1 → i' < xs.length → ys.drop j' = dw (ys.drop (j + 1)) d2 → j' < ys.length → At w A₀ env sc F M₀ Hs wd s₀ n l1 l2 xs ys i' j' vs' X1 X2 M' { s with heap := h', toks := tk } → Q .next { s with heap := h', toks := tk })
    (hE : ∀ i' j' M' h' tk vs' e t cx, xs.drop i' = dw (xs.drop i) d1 → ys.drop j' = dw (ys.drop (j + 1)) d2 → (dw (xs.drop i) d1 = [] ∨ dw (ys.drop (j + 1)) d2 = []) → At w A₀ env sc F M₀ Hs wd s₀ n l1 l2 xs ys i' j' vs' X1 X2 M' { s with heap := h', toks := tk } → Ex env F Hs s₀ l1 l2 M' h' e (some t) (rawInt L) cx → E (.ref e) { s with heap := h', toks := tk }) :
    wpAny (model PG w) A (exec cTryf env) Q E s := by
  by_cases hx0 : dw (xs.drop i) d1 = []
  · refine wpAny_Try_finally (wpAny_mono (Q := fun _ _ => False) (E := TfE w A₀ env sc F M₀ Hs wd s₀ n l1 l2 L xs ys j vs X1 X2 s) (execs_one (a.S.spin K.ki (by decide) (by decide) a.N.a a.ei ee K.zx a.hi K.sx hd1 K.hA K.hu K.f (.inl K.hh)
      (fun k M' h' tk a1 a2 a3 _ _ _ => absurd hx0 (drop_ne a2 a1)) (fun a0 M' h' tk e t cx a1 a2 a3 _ _ _ _ => by cases a3 K.hh; exact ⟨rfl, rfl, a.toI a1 (Nat.le_refl _), a2⟩))) (fun _ _ h => h.elim) ?_)
    rintro v s' ⟨rfl, rfl, a₁, x₁⟩
    rename_i e t M₁ h₁ tk₁
    refine note_flying K.f.f x₁.x ⟨ref_ne_byPass e, note_flying K.f.f x₁.x ?_⟩
    refine a₁.S.flight (fo := none) (hs := { objs := #[] }) x₁ (fun b o _ _ _ _ e => by cases e) (Nat.zero_le _) fun h₂ S₂ x₂ _ _ => ?_
    refine (a₁.re S₂).fin (A' := A.mark (some (.ref e))) K.hA K.hu K ((lk (by decide)).trans ea) hd2 hj (.inr ⟨e, some t, _, rfl, x₂⟩) (fun k' M' h' tk vs' b1 b2 a3 o₄ hm₄ => ?_) fun b0 M' h' tk vs' e' t' cx a3 x₃ => ?_
    · have x₄ := x₂.old o₄ hm₄
      unfold PySem.passOn
      refine wpAny_bind (field1 x₄.x ?_)
      rw [if_neg (by simp), K.f.f]
      refine wpAny_bind ?_
      refine a3.S.flight (fo := some L) (hs := { objs := #[] }) x₄ (fun b o _ _ _ _ e => by cases e) (Nat.zero_le _) fun h₅ S₅ x₅ _ _ => ?_
      exact wpAny_throw (hE xs.length k' M' h₅ tk vs' e t .none (by rw [List.drop_length]; exact hx0.symm) b1 (.inl hx0) (a3.re S₅) x₅)
    · refine a3.S.flying_on K.f.f x₃ (hs := { objs := #[] }) (fun b o _ _ _ _ e => by cases e) (Nat.zero_le _) fun h₄ S₄ x₄ _ => ?_
      exact hE xs.length ys.length M' h₄ tk vs' e' t' cx (by rw [List.drop_length]; exact hx0.symm) (by rw [List.drop_length]; exact b0.symm) (.inl hx0) (a3.re S₄) x₄
  · refine wpAny_Try_finally (wpAny_mono (Q := TfN w A₀ env sc F M₀ Hs wd s₀ n l1 l2 xs ys j vs X1 X2 s (dw (xs.drop i) d1)) (E := fun _ _ => False) (execs_one (a.S.spin K.ki (by decide) (by decide) a.N.a a.ei ee K.zx a.hi K.sx hd1 K.hA K.hu K.f (.inl K.hh)
      (fun k M' h' tk a1 a2 a3 _ _ _ => wpAny_execs_nil ⟨rfl, rfl, a1, a2, a.toI a3 (Nat.le_of_lt a2)⟩) (fun a0 => absurd a0 hx0))) ?_ (fun _ _ h => h.elim))
    rintro f s' ⟨rfl, rfl, hk, hkl, a₁⟩
    rename_i k M₁ h₁ tk₁
    refine wpAny_execs_nil (a₁.fin K.hA K.hu K ((lk (by decide)).trans ea) hd2 hj (.inl K.hh) (fun k' M' h' tk vs' b1 b2 a3 _ _ => hN k k' M' h' tk vs' hk hkl b1 b2 a3) fun b0 M' h' tk vs' e t cx a3 x₃ => ?_)
    refine a3.S.flying_on K.f.f x₃ (hs := { objs := #[] }) (fun b o _ _ _ _ e => by cases e) (Nat.zero_le _) fun h₄ S₄ x₄ _ => ?_
    exact hE k ys.length M' h₄ tk vs' e t cx hk (by rw [List.drop_length]; exact b0.symm) (.inr b0) (a3.re S₄) x₄
end
/-! what is told of two rows, without fuel -/
noncomputable abbrev sldM (m : Nat) (a b : List PyData) := sld ltK PyData.eqv m a b
noncomputable abbrev sldR (a b : List PyData) := sldM (a.length + b.length) a b
theorem dw_le (a : List PyData) (d : PyData) : (dw a d).length ≤ a.length := (List.dropWhile_sublist _).length_le
theorem sld_nilL (k : Nat) (b : List PyData) : sldM k [] b = ([], b) := by cases k <;> rfl
theorem sld_nilR (k : Nat) (a : List PyData) : sldM k a [] = (a, []) := by
  cases k with
  | zero => rfl
  | succ k => cases a <;> rfl
theorem sldR_nilL (b : List PyData) : sldR [] b = ([], b) := sld_nilL _ _
theorem sldR_nilR (a : List PyData) : sldR a [] = (a, []) := sld_nilR _ _
theorem sldM_cons {m : Nat} {e f : PyData} {a b : List PyData} : sldM (m + 1) (e :: a) (f :: b) = if ltK e f then (e :: (sldM m (dw a e) (f :: b)).1, (sldM m (dw a e) (f :: b)).2) else if ltK f e then ((sldM m (e :: a) (dw b f)).1, f :: (sldM m (e :: a) (dw b f)).2) else sldM m (dw a e) (dw b f) := rfl
theorem sld_fuel {n : Nat} : ∀ {m : Nat} {a b : List PyData}, a.length + b.length ≤ n → a.length + b.length ≤ m → sldM n a b = sldM m a b := by
  induction n with
  | zero =>
    intro m a b h _
    cases a with
    | cons => exact absurd h (by rw [List.length_cons]; omega)
    | nil => rw [sld_nilL, sld_nilL]
  | succ n ih =>
    intro m a b h1 h2
    cases a with
    | nil => rw [sld_nilL, sld_nilL]
    | cons e a =>
      cases b with
      | nil => rw [sld_nilR, sld_nilR]
      | cons f b =>
        induction m with
        | zero => exact absurd h2 (by rw [List.length_cons]; omega)
        | succ m =>
          rw [List.length_cons, List.length_cons] at h1 h2
          have d1 := dw_le a e
          have d2 := dw_le b f
          rw [sldM_cons, sldM_cons, ih (m := m) (a := dw a e) (b := f :: b) (by rw [List.length_cons]; omega) (by rw [List.length_cons]; omega), ih (m := m) (a := e :: a) (b := dw b f) (by rw [List.length_cons]; omega) (by rw [List.length_cons]; omega), ih (m := m) (a := dw a e) (b := dw b f) (by omega) (by omega)]
theorem sldR_cons {e f : PyData} {a b : List PyData} : sldR (e :: a) (f :: b) = if ltK e f then (e :: (sldR (dw a e) (f :: b)).1, (sldR (dw a e) (f :: b)).2) else if ltK f e then ((sldR (e :: a) (dw b f)).1, f :: (sldR (e :: a) (dw b f)).2) else sldR (dw a e) (dw b f) := by
  have d1 := dw_le a e
  have d2 := dw_le b f
  have h := sldM_cons (m := a.length + 1 + b.length) (e := e) (f := f) (a := a) (b := b)
  rw [sld_fuel (m := (dw a e).length + (f :: b).length) (a := dw a e) (b := f :: b) (by rw [List.length_cons]; omega) (Nat.le_refl _), sld_fuel (m := (e :: a).length + (dw b f).length) (a := e :: a) (b := dw b f) (by rw [List.length_cons]; omega) (Nat.le_refl _), sld_fuel (m := (dw a e).length + (dw b f).length) (a := dw a e) (b := dw b f) (by omega) (Nat.le_refl _)] at h
  exact h
theorem sld_len {n : Nat} : ∀ {a b : List PyData}, (sldM n a b).1.length ≤ a.length ∧ (sldM n a b).2.length ≤ b.length := by
  induction n with
  | zero => exact ⟨Nat.le_refl _, Nat.le_refl _⟩
  | succ n ih =>
    intro a b
    cases a with
    | nil => rw [sld_nilL]; exact ⟨Nat.le_refl _, Nat.le_refl _⟩
    | cons e a =>
      induction b with
      | nil => rw [sld_nilR]; exact ⟨Nat.le_refl _, Nat.le_refl _⟩
      | cons f b =>
        have d1 := dw_le a e
        have d2 := dw_le b f
        have i1 := ih (a := dw a e) (b := f :: b)
        have i2 := ih (a := e :: a) (b := dw b f)
        have i3 := ih (a := dw a e) (b := dw b f)
        rw [sldM_cons, List.length_cons, List.length_cons] at *
        split
        · exact ⟨Nat.succ_le_succ (Nat.le_trans i1.1 d1), i1.2⟩
        · split
          · exact ⟨i2.1, Nat.succ_le_succ (Nat.le_trans i2.2 d2)⟩
          · exact ⟨Nat.le_succ_of_le (Nat.le_trans i3.1 d1), Nat.le_succ_of_le (Nat.le_trans i3.2 d2)⟩
section
variable {w : World} {A A₀ : Around} {env : Env} {sc : Scope} {F M M' M₀ T : List Addr} {Hs : HL} {vs vs' : Vars} {wd : Wd} {s₀ s : Shared} {n : Nat} {h h' h'' : Heap} {pv : PV} {X : Value → Shared → Prop} {l1 l2 : Addr} {X1 X2 : List PyData} {xs ys : List PyData} {L : Addr} {i j m : Nat} {d1 d2 : PyData} {ra rb Z1 Z2 : List PyData} {Q : Flow → Shared → Prop} {E : Value → Shared → Prop}
/-- the passes go on -/
noncomputable def GoOn (w : World) (A₀ : Around) (env : Env) (sc : Scope) (F M₀ : List Addr) (Hs : HL) (wd : Wd) (s₀ : Shared) (n : Nat) (l1 l2 : Addr) (xs ys Z1 Z2 : List PyData) (m : Nat) (s : Shared) (P : Shared → Prop) : Prop :=
  ∀ i' j' Y1 Y2 M' h' tk vs', At w A₀ env sc F M₀ Hs wd s₀ n l1 l2 xs ys i' j' vs' Y1 Y2 M' { s with heap := h', toks := tk } → Y1 ++ (sldR (xs.drop i') (ys.drop j')).1 = Z1 → Y2 ++ (sldR (xs.drop i') (ys.drop j')).2 = Z2 → (xs.drop i').length + (ys.drop j').length < m → P { s with heap := h', toks := tk }
/-- an index beyond a row's end ends them -/
noncomputable def Stops (w : World) (A₀ : Around) (env : Env) (sc : Scope) (F M₀ : List Addr) (Hs : HL) (wd : Wd) (s₀ : Shared) (n : Nat) (l1 l2 L : Addr) (xs ys Z1 Z2 : List PyData) (s : Shared) (X : Value → Shared → Prop) : Prop :=
  ∀ i' j' Y1 Y2 M' h' tk vs' e t cx, At w A₀ env sc F M₀ Hs wd s₀ n l1 l2 xs ys i' j' vs' Y1 Y2 M' { s with heap := h', toks := tk } → Y1 ++ xs.drop i' = Z1 → Y2 ++ ys.drop j' = Z2 → Ex env F Hs s₀ l1 l2 M' h' e (some t) (rawInt L) cx → X (.ref e) { s with heap := h', toks := tk }
noncomputable def BrkS (w : World) (A₀ : Around) (env : Env) (sc : Scope) (F M₀ : List Addr) (Hs : HL) (wd : Wd) (s₀ : Shared) (n : Nat) (l1 l2 : Addr) (xs ys Z1 Z2 : List PyData) (s : Shared) (Q : Flow → Shared → Prop) : Prop :=
  ∀ M' h' tk vs', Names sc vs' l1 l2 xs ys → Sq w A₀ env sc F M₀ Hs wd s₀ n l1 l2 vs' Z1 Z2 M' { s with heap := h', toks := tk } → Q .brk { s with heap := h', toks := tk }
theorem GoOn.mono {P P' : Shared → Prop} (g : GoOn w A₀ env sc F M₀ Hs wd s₀ n l1 l2 xs ys Z1 Z2 m s P) (h : ∀ s', P s' → P' s') : GoOn w A₀ env sc F M₀ Hs wd s₀ n l1 l2 xs ys Z1 Z2 m s P' := fun i' j' Y1 Y2 M' h' tk vs' a e1 e2 z => h _ (g i' j' Y1 Y2 M' h' tk vs' a e1 e2 z)
theorem At.lt (K : Know w A A₀ env sc F L xs ys) (a : At w A₀ env sc F M₀ Hs wd s₀ n l1 l2 xs ys i j vs X1 X2 M s) (hx : xs.drop i = d1 :: ra) (hy : ys.drop j = d2 :: rb) (q : ltK d1 d2 = true) (ee : vs.lookup (Str.ofString "e") = some (PV.dat d1)) (z1 : X1.length ≤ 200) (e1 : X1 ++ (sldR (xs.drop i) (ys.drop j)).1 = Z1) (e2 : X2 ++ (sldR (xs.drop i) (ys.drop j)).2 = Z2)
    (hN : GoOn w A₀ env sc F M₀ Hs wd s₀ n l1 l2 xs ys Z1 Z2 ((xs.drop i).length + (ys.drop j).length) s (Q .next)) (hX : Stops w A₀ env sc F M₀ Hs wd s₀ n l1 l2 L xs ys Z1 Z2 s X) : wpAny (model PG w) A (execs cLt env) Q X s := by
  obtain ⟨hx1, hx2, hx3⟩ := drop_cons_get hx
  have st : sldR (xs.drop i) (ys.drop j) = (d1 :: (sldR (dw ra d1) (ys.drop j)).1, (sldR (dw ra d1) (ys.drop j)).2) := by rw [hx, hy, sldR_cons, if_pos q]
  rw [st] at e1 e2
  rw [List.append_cons] at e1
  refine execs_one (a.S.app_gen (by decide) ln1 a.N.m1 ee a.S.c1 z1 fun h₃ new z hl sb r₃ => ?_)
  refine execs_one ((a.S.app1 hl sb r₃ s.toks).aug K.ai a.ei fun h₄ tk₄ S₄ _ _ => ?_)
  have a₄ := a.toI (k := i + 1) S₄ hx2
  refine execs_one (S₄.spin (i := i + 1) K.ki (by decide) (by decide) a₄.N.a lk0 ((lk (by decide)).trans ee) K.zx hx2 K.sx (K.sx d1 (List.mem_of_getElem? hx1)) K.hA K.hu K.f (.inl K.hh) (fun k M' h' tk a1 a2 a3 _ _ _ => wpAny_execs_nil ?_) fun a0 M' h' tk e t cx a1 a2 _ _ _ _ _ => ?_)
  · rw [hx3] at a1
    refine hN k j _ X2 M' h' tk _ (a₄.toI a3 (Nat.le_of_lt a2)) (by rw [a1]; exact e1) (by rw [a1]; exact e2) ?_
    rw [a1, hx]
    exact Nat.add_lt_add_right (Nat.lt_succ_of_le (dw_le ra d1)) _
  · rw [hx3] at a0
    rw [show dw ra d1 = [] from a0, sldR_nilL] at e1 e2
    exact hX _ j _ X2 M' h' tk _ e t cx (a₄.toI a1 (Nat.le_refl _)) (by rw [List.drop_length]; exact e1) e2 a2
theorem At.gt (K : Know w A A₀ env sc F L xs ys) (a : At w A₀ env sc F M₀ Hs wd s₀ n l1 l2 xs ys i j vs X1 X2 M s) (hx : xs.drop i = d1 :: ra) (hy : ys.drop j = d2 :: rb) (q' : ltK d1 d2 = false) (q : ltK d2 d1 = true) (ea : vs.lookup (Str.ofString "a") = some (PV.dat d2)) (z2 : X2.length ≤ 200) (e1 : X1 ++ (sldR (xs.drop i) (ys.drop j)).1 = Z1) (e2 : X2 ++ (sldR (xs.drop i) (ys.drop j)).2 = Z2)
    (hN : GoOn w A₀ env sc F M₀ Hs wd s₀ n l1 l2 xs ys Z1 Z2 ((xs.drop i).length + (ys.drop j).length) s (Q .next)) (hX : Stops w A₀ env sc F M₀ Hs wd s₀ n l1 l2 L xs ys Z1 Z2 s X) : wpAny (model PG w) A (execs cGt env) Q X s := by
  obtain ⟨hy1, hy2, hy3⟩ := drop_cons_get hy
  have st : sldR (xs.drop i) (ys.drop j) = ((sldR (xs.drop i) (dw rb d2)).1, d2 :: (sldR (xs.drop i) (dw rb d2)).2) := by rw [hx, hy, sldR_cons, if_neg (by rw [q']; decide), if_pos q]
  rw [st] at e1 e2
  rw [List.append_cons] at e2
  refine execs_one (a.S.app_gen (by decide) ln2 a.N.m2 ea a.S.c2 z2 fun h₃ new z hl sb r₃ => ?_)
  refine execs_one ((a.S.app2 hl sb r₃ s.toks).aug K.aj a.ej fun h₄ tk₄ S₄ _ _ => ?_)
  have a₄ := a.toJ (k := j + 1) S₄ hy2
  refine execs_one (S₄.spin (i := j + 1) K.kj (by decide) (by decide) a₄.N.b lk0 ((lk (by decide)).trans ea) K.zy hy2 K.sy (K.sy d2 (List.mem_of_getElem? hy1)) K.hA K.hu K.f (.inl K.hh) (fun k M' h' tk a1 a2 a3 _ _ _ => wpAny_execs_nil ?_) fun a0 M' h' tk e t cx a1 a2 _ _ _ _ _ => ?_)
  · rw [hy3] at a1
    refine hN i k X1 _ M' h' tk _ (a₄.toJ a3 (Nat.le_of_lt a2)) (by rw [a1]; exact e1) (by rw [a1]; exact e2) ?_
    rw [a1, hy]
    exact Nat.add_lt_add_left (Nat.lt_succ_of_le (dw_le rb d2)) _
  · rw [hy3] at a0
    rw [show dw rb d2 = [] from a0, sldR_nilR] at e1 e2
    exact hX i _ X1 _ M' h' tk _ e t cx (a₄.toJ a1 (Nat.le_refl _)) e1 (by rw [List.drop_length]; exact e2) a2
theorem At.eq (K : Know w A A₀ env sc F L xs ys) (a : At w A₀ env sc F M₀ Hs wd s₀ n l1 l2 xs ys i j vs X1 X2 M s) (hx : xs.drop i = d1 :: ra) (hy : ys.drop j = d2 :: rb) (q' : ltK d1 d2 = false) (q : ltK d2 d1 = false) (ee : vs.lookup (Str.ofString "e") = some (PV.dat d1)) (ea : vs.lookup (Str.ofString "a") = some (PV.dat d2)) (e1 : X1 ++ (sldR (xs.drop i) (ys.drop j)).1 = Z1) (e2 : X2 ++ (sldR (xs.drop i) (ys.drop j)).2 = Z2)
    (hN : GoOn w A₀ env sc F M₀ Hs wd s₀ n l1 l2 xs ys Z1 Z2 ((xs.drop i).length + (ys.drop j).length) s (Q .next)) (hX : Stops w A₀ env sc F M₀ Hs wd s₀ n l1 l2 L xs ys Z1 Z2 s X) : wpAny (model PG w) A (execs cEq env) Q X s := by
  obtain ⟨hx1, hx2, hx3⟩ := drop_cons_get hx
  obtain ⟨hy1, hy2, hy3⟩ := drop_cons_get hy
  have st : sldR (xs.drop i) (ys.drop j) = sldR (dw ra d1) (dw rb d2) := by rw [hx, hy, sldR_cons, if_neg (by rw [q']; decide), if_neg (by rw [q]; decide)]
  rw [st] at e1 e2
  refine execs_one (a.S.aug K.ai a.ei fun h₄ tk₄ S₄ _ _ => ?_)
  refine execs_one ((a.toI (k := i + 1) S₄ hx2).tryf K ((lk (by decide)).trans ee) ((lk (by decide)).trans ea) (K.sx d1 (List.mem_of_getElem? hx1)) (K.sy d2 (List.mem_of_getElem? hy1)) hy2 (fun i' j' M' h' tk vs' a1 _ b1 _ a' => wpAny_execs_nil ?_) fun i' j' M' h' tk vs' e t cx a1 b1 hor a' x => ?_)
  · rw [hx3] at a1
    rw [hy3] at b1
    refine hN i' j' X1 X2 M' h' tk vs' a' (by rw [a1, b1]; exact e1) (by rw [a1, b1]; exact e2) ?_
    rw [a1, b1, hx, hy]
    exact Nat.add_lt_add (Nat.lt_succ_of_le (dw_le ra d1)) (Nat.lt_succ_of_le (dw_le rb d2))
  · rw [hx3] at a1 hor
    rw [hy3] at b1 hor
    refine hX i' j' X1 X2 M' h' tk vs' e t cx a' ?_ ?_ x
    · rw [← e1, a1]
      rcases hor with h | h
      · rw [show dw ra d1 = [] from h, sldR_nilL]
      · rw [show dw rb d2 = [] from h, sldR_nilR]
    · rw [← e2, b1]
      rcases hor with h | h
      · rw [show dw ra d1 = [] from h, sldR_nilL]
      · rw [show dw rb d2 = [] from h, sldR_nilR]
/-- into the handler -/
noncomputable abbrev HndP (w : World) (A : Around) (env : Env) (Q : Flow → Shared → Prop) (E : Value → Shared → Prop) : Value → Shared → Prop := fun e s₁ => wpAny (model PG w) A (noteFrame e env) (fun _ s₂ => wpAny (model PG w) A (setFlight e none) (fun _ s₃ => wpAny (model PG w) A (handleBy e env [cHnd]) Q E s₃) E s₂) E s₁
theorem At.hnd {e : Addr} {tb : Option Addr} {cx : Value} (K : Know w A A₀ env sc F L xs ys) (a : At w A₀ env sc F M₀ Hs wd s₀ n l1 l2 xs ys i j vs X1 X2 M s) (x : Ex env F Hs s₀ l1 l2 M s.heap e tb (tb.elim .none fun _ => rawInt L) cx) (e1 : X1 ++ xs.drop i = Z1) (e2 : X2 ++ ys.drop j = Z2) (z1 : Z1.length ≤ 60) (z2 : Z2.length ≤ 60) (hB : BrkS w A₀ env sc F M₀ Hs wd s₀ n l1 l2 xs ys Z1 Z2 s Q) : HndP w A env Q E (.ref e) s := by
  subst e1 e2
  rw [List.length_append] at z1 z2
  exact a.S.handle K.hA K.f K.hg a.N a.ei a.ej K.zx K.zy a.hi a.hj (Nat.le_trans (Nat.le_trans (Nat.le_add_right _ _) z1) (by decide)) (Nat.le_trans (Nat.le_trans (Nat.le_add_right _ _) z2) (by decide)) ln3 ln4 x fun M' h' tk S' => hB M' h' tk vs a.N S'
theorem stops_of (K : Know w A A₀ env sc F L xs ys) (z1 : Z1.length ≤ 60) (z2 : Z2.length ≤ 60) (hB : BrkS w A₀ env sc F M₀ Hs wd s₀ n l1 l2 xs ys Z1 Z2 s Q) : Stops w A₀ env sc F M₀ Hs wd s₀ n l1 l2 L xs ys Z1 Z2 s (HndP w A env Q E) :=
  fun i' j' Y1 Y2 M' h' tk vs' e t cx a e1 e2 x => a.hnd (tb := some t) K x e1 e2 z1 z2 hB
theorem At.cmp {op : CmpOp} {p q p' : Pos} {r : Bool} {P : Bool → Shared → Prop} {whole : Sem Value} (K : Know w A A₀ env sc F L xs ys) (a : At w A₀ env sc F M₀ Hs wd s₀ n l1 l2 xs ys i j vs X1 X2 M s) (ee : vs.lookup (Str.ofString "e") = some (PV.dat d1)) (ea : vs.lookup (Str.ofString "a") = some (PV.dat d2)) (hc : cmpV op (.dat d1) (.dat d2) = some r) (hb : behindInMarks op (.Name "a" q) = false) (h : P r s) : wpAny (model PG w) A (isTrue (.Compare (.Name "e" p) [op] [.Name "a" q] p') env whole) P E s :=
  wpAny_isTrue_Compare1 (name_here a.S.si (by decide) ee fun v r => name_here a.S.si (by decide) ea fun v' r' => cmp_snd (ML := []) K.hu hc r r' (wpAny_truthy_bool h)) hb
theorem At.choose (K : Know w A A₀ env sc F L xs ys) (a : At w A₀ env sc F M₀ Hs wd s₀ n l1 l2 xs ys i j vs X1 X2 M s) (hx : xs.drop i = d1 :: ra) (hy : ys.drop j = d2 :: rb) (hlt1 : ltD d1 d2 = some (ltK d1 d2)) (hlt2 : ltD d2 d1 = some (ltK d2 d1)) (ee : vs.lookup (Str.ofString "e") = some (PV.dat d1)) (ea : vs.lookup (Str.ofString "a") = some (PV.dat d2)) (y1 : X1.length ≤ 200) (y2 : X2.length ≤ 200)
    (e1 : X1 ++ (sldR (xs.drop i) (ys.drop j)).1 = Z1) (e2 : X2 ++ (sldR (xs.drop i) (ys.drop j)).2 = Z2) (z1 : Z1.length ≤ 60) (z2 : Z2.length ≤ 60)
    (hB : BrkS w A₀ env sc F M₀ Hs wd s₀ n l1 l2 xs ys Z1 Z2 s Q) (hN : GoOn w A₀ env sc F M₀ Hs wd s₀ n l1 l2 xs ys Z1 Z2 ((xs.drop i).length + (ys.drop j).length) s (Q .next)) : wpAny (model PG w) A (execs [cIf] env) (fun f s₁ => match f with | .next => wpAny (model PG w) A (execs [] env) Q E s₁ | f => Q f s₁) (HndP w A env Q E) s := by
  have stop := stops_of (A := A) (E := E) K z1 z2 hB
  refine execs_one (wpAny_If (a.cmp K ee ea (r := ltK d1 d2) hlt1 rfl ?_))
  cases q1 : ltK d1 d2 with
  | true =>
    rw [if_pos rfl]
    exact a.lt K hx hy q1 ee y1 e1 e2 (hN.mono fun _ h => wpAny_execs_nil (wpAny_execs_nil h)) stop
  | false =>
    rw [if_neg Bool.false_ne_true]
    refine execs_one (wpAny_If (a.cmp K ee ea (op := .Gt) (r := ltK d2 d1) hlt2 rfl ?_))
    cases q2 : ltK d2 d1 with
    | true =>
      rw [if_pos rfl]
      exact a.gt K hx hy q1 q2 ea y2 e1 e2 (hN.mono fun _ h => wpAny_execs_nil (wpAny_execs_nil (wpAny_execs_nil h))) stop
    | false =>
      rw [if_neg Bool.false_ne_true]
      exact a.eq K hx hy q1 q2 ee ea e1 e2 (hN.mono fun _ h => wpAny_execs_nil (wpAny_execs_nil (wpAny_execs_nil h))) stop
theorem At.pass (K : Know w A A₀ env sc F L xs ys) (a : At w A₀ env sc F M₀ Hs wd s₀ n l1 l2 xs ys i j vs X1 X2 M s) (e1 : X1 ++ (sldR (xs.drop i) (ys.drop j)).1 = Z1) (e2 : X2 ++ (sldR (xs.drop i) (ys.drop j)).2 = Z2) (z1 : Z1.length ≤ 60) (z2 : Z2.length ≤ 60)
    (hB : BrkS w A₀ env sc F M₀ Hs wd s₀ n l1 l2 xs ys Z1 Z2 s Q) (hN : GoOn w A₀ env sc F M₀ Hs wd s₀ n l1 l2 xs ys Z1 Z2 ((xs.drop i).length + (ys.drop j).length) s (Q .next)) : wpAny (model PG w) A (exec cTry env) Q E s := by
  have y1 : X1.length ≤ 200 := by rw [← e1, List.length_append] at z1; exact Nat.le_trans (Nat.le_trans (Nat.le_add_right _ _) z1) (by decide)
  have y2 : X2.length ≤ 200 := by rw [← e2, List.length_append] at z2; exact Nat.le_trans (Nat.le_trans (Nat.le_add_right _ _) z2) (by decide)
  refine wpAny_Try_except ?_
  cases hx : xs.drop i with
  | nil =>
    rw [hx, sldR_nilL] at e1 e2
    refine execs_one (wpAny_Assign_Name (a.S.idx_out (.inl K.hh) (by decide) a.N.a a.ei (drop_nil_len hx) (Nat.le_trans a.hi (Nat.le_trans K.zx (by decide))) fun h₁ tk₁ e cx kp ge lt x _ => ?_) rfl)
    obtain ⟨S₁, x₁⟩ := a.S.raised (tk := tk₁) kp ge lt x
    exact (a.re S₁).hnd (tb := none) K x₁ (by rw [hx]; exact e1) e2 z1 z2 hB
  | cons d1 ra =>
    obtain ⟨hx1, hx2, hx3⟩ := drop_cons_get hx
    refine execs_one (wpAny_Assign_Name (a.S.idx (by decide) a.N.a a.ei (Nat.le_trans K.zx (by decide)) hx1 fun v tk₁ r₁ => ?_) rfl)
    refine (a.S.kp (Kp.refl _) tk₁).sto K.oe r₁.vr fun h₁ tk₁ S₁ _ _ => ?_
    have a₁ := a.toV S₁ (by decide) (by decide) (by decide)
    cases hy : ys.drop j with
    | nil =>
      rw [hy, sldR_nilR] at e1 e2
      refine execs_one (wpAny_Assign_Name (a₁.S.idx_out (.inl K.hh) (by decide) a₁.N.b a₁.ej (drop_nil_len hy) (Nat.le_trans a.hj (Nat.le_trans K.zy (by decide))) fun h₁ tk₁ e cx kp ge lt x _ => ?_) rfl)
      obtain ⟨S₂, x₂⟩ := a₁.S.raised (tk := tk₁) kp ge lt x
      exact (a₁.re S₂).hnd (tb := none) K x₂ e1 (by rw [hy]; exact e2) z1 z2 hB
    | cons d2 rb =>
      obtain ⟨hy1, hy2, hy3⟩ := drop_cons_get hy
      obtain ⟨hlt1, hlt2⟩ := K.hlt d1 (List.mem_of_getElem? hx1) d2 (List.mem_of_getElem? hy1)
      refine execs_one (wpAny_Assign_Name (a₁.S.idx (by decide) a₁.N.b a₁.ej (Nat.le_trans K.zy (by decide)) hy1 fun v tk₂ r₂ => ?_) rfl)
      refine (a₁.S.kp (Kp.refl _) tk₂).sto K.oa r₂.vr fun h₂ tk₂ S₂ _ _ => ?_
      exact (a₁.toV (s' := { s with heap := h₂, toks := tk₂ }) S₂ (by decide) (by decide) (by decide)).choose K hx hy hlt1 hlt2 ((lk (by decide)).trans lk0) lk0 y1 y2 e1 e2 z1 z2 hB hN
end
section
variable {w : World} {A A₀ : Around} {env : Env} {sc : Scope} {F M M' M₀ T : List Addr} {Hs : HL} {vs vs' : Vars} {wd : Wd} {s₀ s : Shared} {n : Nat} {h h' h'' : Heap} {pv : PV} {X : Value → Shared → Prop} {l1 l2 : Addr} {X1 X2 : List PyData} {xs ys : List PyData} {L : Addr} {i j m : Nat} {Z1 Z2 : List PyData} {Q : Flow → Shared → Prop} {E : Value → Shared → Prop}

inductive LoopP (w : World) (A₀ : Around) (env : Env) (sc : Scope) (F M₀ : List Addr) (Hs : HL) (wd : Wd) (s₀ : Shared) (n : Nat) (l1 l2 : Addr) (xs ys Z1 Z2 : List PyData) (s : Shared) (k : Nat) (s' : Shared) : Prop
  | mk {i j Y1 Y2 M h tk vs} : s' = { s with heap := h, toks := tk } → At w A₀ env sc F M₀ Hs wd s₀ n l1 l2 xs ys i j vs Y1 Y2 M { s with heap := h, toks := tk } → Y1 ++ (sldR (xs.drop i) (ys.drop j)).1 = Z1 → Y2 ++ (sldR (xs.drop i) (ys.drop j)).2 = Z2 → (xs.drop i).length + (ys.drop j).length = k → LoopP w A₀ env sc F M₀ Hs wd s₀ n l1 l2 xs ys Z1 Z2 s k s'
theorem At.loop (K : Know w A A₀ env sc F L xs ys) (a : At w A₀ env sc F M₀ Hs wd s₀ n l1 l2 xs ys i j vs X1 X2 M s) (e1 : X1 ++ (sldR (xs.drop i) (ys.drop j)).1 = Z1) (e2 : X2 ++ (sldR (xs.drop i) (ys.drop j)).2 = Z2) (z1 : Z1.length ≤ 60) (z2 : Z2.length ≤ 60)
    (hQ : ∀ M' h' tk vs', Names sc vs' l1 l2 xs ys → Sq w A₀ env sc F M₀ Hs wd s₀ n l1 l2 vs' Z1 Z2 M' { s with heap := h', toks := tk } → Q .next { s with heap := h', toks := tk }) : wpAny (model PG w) A (exec cLoop env) Q E s := by
  refine wpAny_While (codeAny_whileLoop (LoopP w A₀ env sc F M₀ Hs wd s₀ n l1 l2 xs ys Z1 Z2 s) ?_ _ ⟨rfl, a, e1, e2, rfl⟩)
  rintro k _ ⟨rfl, a₁, t1, t2, rfl⟩
  refine wpAny_isTrue_value (wpAny_Constant_bool (wpAny_truthy_bool ?_))
  rw [if_pos rfl]
  exact execs_one (a₁.pass K t1 t2 z1 z2 hQ fun i' j' Y1 Y2 M' h' tk vs' a' r1 r2 hl => wpAny_execs_nil ⟨_, hl, rfl, a', r1, r2, rfl⟩)
end
theorem sld_g (w : World) : FnG w 45 sldD := by
  have h1 : (fdIn (KF w) 45).map (·.body) = some (.stmts sldD.2.1) := by kernel_rfl!
  have h2 : (fdIn (KF w) 45).map (·.scope) = some sldD.2.2 := by kernel_rfl!
  have h3 : (fdIn (KF w) 45).map (·.closure) = some [] := by kernel_rfl!
  have h4 : (fdIn (KF w) 45).map (fun fd => (fd.globals, fd.builtins)) = some (mainGlobals, builtinsNs) := by kernel_rfl!
  have h5 : (fdIn (KF w) 45).map (fun fd => codeIn (KF w) fd.code fd.qualname) = some true := by kernel_rfl!
  rw [Option.map_eq_some_iff] at h1
  obtain ⟨fd, e, h1⟩ := h1
  rw [e, Option.map_some, Option.some.injEq] at h2 h3 h4 h5
  rw [Prod.mk.injEq] at h4
  exact ⟨⟨fd, e, h1, h2, h3, h4.1, h4.2, h5⟩, by kernel_rfl!, by decide +kernel, by kernel_rfl!⟩
theorem sld_b (w : World) (a b : Value) : BindsG w 45 ⟨[a, b], []⟩ (sldD.1.zip [a, b]) := bindsG_peek fun S => by kernel_rfl!
theorem sld_ns (w : World) : nsIn (KF w) mainGlobals (Str.ofString "sorted_list_difference") = some (some (.ref 45)) := by kernel_rfl!
theorem sld_keep (w : World) : keepIn (KF w) (.ref 45) = true := by kernel_rfl!
section
variable {w : World} {A A₀ : Around} {env : Env} {sc : Scope} {F ML M M' M₀ T : List Addr} {Hs : HL} {vs vs' : Vars} {wd : Wd} {s₀ s : Shared} {n : Nat} {h h' h'' : Heap} {pv : PV} {X : Value → Shared → Prop} {l1 l2 D : Addr} {X1 X2 : List PyData}
theorem Si.drop (I : Si w A env sc F [] M Hs vs wd s n) (ap : Apart env F [] Hs D) : Si w A env sc F [] (M.filter (· ≠ D)) Hs vs wd s n := by
  have sub : ∀ a ∈ M.filter (· ≠ D), a ∈ M := fun a x => (List.mem_filter.mp x).1
  have hid : ∀ a o, (Hid s.heap M).get? a = some o → (Hid s.heap (M.filter (· ≠ D))).get? a = some o := fun a o e => Hid.get (Hid.of e) fun x => Hid.off e (sub a x)
  have ins : ∀ a ∈ M, D ≠ a → a ∈ M.filter (· ≠ D) := fun a x h => List.mem_filter.mpr ⟨x, by simpa using fun e => h e.symm⟩
  refine ⟨I.ek, ⟨I.ai.handled, I.ai.frames, fun x hx => ins x (I.ai.fM x hx) fun e => ap.fr (e ▸ hx), I.ai.depth, I.ai.units⟩, ⟨fun x o e => hid x o (I.wi.kin x o e), I.wi.tr.keeps hid, I.wi.len, fun i p it e1 e2 => (I.wi.hd i p it e1 e2).mv hid fun _ e => e, fun p hp => ins _ (I.wi.hlM p hp) fun e => ap.hl (List.mem_map.mpr ⟨p, hp, e.symm⟩), I.wi.nd⟩, ⟨?_, ins _ I.ei.locM ap.lc, I.ei.locH, fun x c hc => ?_, I.ei.cellOf, I.ei.inj, ⟨(fun _ x => no_mem x), (fun _ x => no_mem x), (fun _ x => no_mem x), (fun _ x => no_mem x)⟩, (fun _ x => no_mem x), ⟨fun p hp => ins _ (I.wi.hlM p hp) fun e => ap.hl (List.mem_map.mpr ⟨p, hp, e.symm⟩), fun x hx => ins x (I.ei.in2.fr x hx) fun e => ap.fr (e ▸ hx)⟩⟩, fun x hx => I.mt x (sub x hx), I.fh⟩
  · obtain ⟨mm, hn, hv⟩ := I.ei.ns
    refine ⟨mm, hn, fun x pv e => ?_⟩
    obtain ⟨v, r, a⟩ := hv x pv e
    refine ⟨v, ?_, a⟩
    rcases r with r | ⟨b, _, _, _, _, _, _, hb, _⟩
    · exact .inl (r.mono hid fun _ _ e => e)
    · cases hb
  · obtain ⟨c1, c2, c3, c4⟩ := I.ei.cells x c hc
    exact ⟨ins c c1 (ap.ce x c hc), c2, c3, c4⟩
theorem Go.drop {S : List Addr} {Hs' : HL} {M₀ : List Addr} {h₀ : Heap} (G : Go S Hs F M₀ h₀ Hs' M h) (hD : h₀.objs.size ≤ D) (mt : Mt h₀ M₀) : Go S Hs F M₀ h₀ Hs' (M.filter (· ≠ D)) h :=
  ⟨G.keep, G.fr, G.size, fun a x => List.mem_filter.mpr ⟨G.ms a x, by simpa using fun e => absurd (mt a x) (Nat.not_lt.mpr (by rw [e]; exact hD))⟩, fun a x => G.fresh a (List.mem_filter.mp x).1, G.hs⟩
theorem not_own {l : List Addr} {a : Addr} : a ∉ l.filter (· ≠ a) := fun x => by simpa using (List.mem_filter.mp x).2
theorem new_list (I : Si w A env sc F ML M Hs vs wd s n) (k : s.heap.objs.size = D) : (s.heap.push { cls := .type "list", data := .seq (([] : List Value).toArray) }).get? D = some ⟨.type "list", none, .seq #[] 0, #[]⟩ := by
  subst k
  exact Heap.get?_push_size _ rfl
/-- «x = []», an object of its own -/
theorem fresh_list {x : Str} {p q r : Pos} {Q : Flow → Shared → Prop} (I : Si w A env sc F [] M Hs vs wd s n) (ho : ownKind sc x = true)
    (hQ : ∀ h' tk D, Go (Own env sc) Hs F M s.heap Hs (D :: M) h' → Si w A env sc F [] (D :: M) Hs ((x, .obj D) :: vs) wd { s with heap := h', toks := tk } n → s.heap.objs.size ≤ D → Apart env F [] Hs D → h'.get? D = some ⟨.type "list", none, .seq #[] 0, #[]⟩ → Q .next { s with heap := h', toks := tk }) :
    wpAny (model PG w) A (exec (.Assign [.Name x p] (.List [] q) r) env) Q X s := by
  refine wpAny_Assign_Name (wpAny_List (wpAny_items_nil ⟨by decide, ?_⟩)) rfl
  obtain ⟨G₃, W₃, m₃, hd₃⟩ := pushed I { cls := .type "list", data := .seq (([] : List Value).toArray) }
  have ap : Apart env F [] Hs s.heap.objs.size := apart_new (s' := s) I (Nat.le_refl _) hd₃ rfl
  exact store_snd (I.go G₃ W₃ m₃ s.toks) ho (pv := .obj s.heap.objs.size) (.inl .obj) fun h₄ tk₄ p₄ G₄ I₄ => hQ h₄ tk₄ _ ((G₃.weaken fun _ x => no_mem x).trans' G₄) I₄ (Nat.le_refl _) ap (p₄.keep _ _ (Apart.own ap) (new_list I rfl))
theorem sld_end {xs ys Z1 Z2 : List PyData} {q1 q2 q3 q4 : Pos} {M₇ : List Addr} {Q : Flow → Shared → Prop} {E : Value → Shared → Prop} (S : Sq w A env sc F M Hs wd s₀ n l1 l2 vs Z1 Z2 M₇ s) (N : Names sc vs l1 l2 xs ys) (mt : Mt s₀.heap M)
    (hQ : ∀ M' h' tk T, Go (Own env sc) Hs F M s₀.heap Hs M' h' → Si w A env sc F [] M' Hs [] wd { s with heap := h', toks := tk } n → Vr w.params h' M' Hs [] (.ref T) (.dat (.tuple [.list Z1, .list Z2])) → Q (.ret (.ref T)) { s with heap := h', toks := tk }) :
    wpAny (model PG w) A (exec (.Return (some (.Tuple [.Name "missing" q1, .Name "unexpected" q2] 0 q3)) q4) env) Q E s := by
  refine wpAny_Return_some (wpAny_Tuple (wpAny_items_cons (name_here S.si (by decide) N.m1 fun v1 r1 => wpAny_items_cons (name_here S.si (by decide) N.m2 fun v2 r2 => ?_) rfl) rfl))
  cases r1.rv' (by rfl)
  cases r2.rv' (by rfl)
  refine wpAny_items_nil ⟨by show 2 ≤ sizeLine; decide, ?_⟩
  have I₈ := (S.si.drop S.a1).drop S.a2
  have G₈ := (S.go.drop (D := l1) S.g1 mt).drop (D := l2) S.g2 mt
  have hid : ∀ a o, (Hid s.heap M₇).get? a = some o → (Hid s.heap ((M₇.filter (· ≠ l1)).filter (· ≠ l2))).get? a = some o := fun a o e => Hid.get (Hid.of e) fun x => Hid.off e (List.mem_filter.mp (List.mem_filter.mp x).1).1
  obtain ⟨ws1, z1, e1, ra1⟩ := S.c1
  obtain ⟨ws2, z2, e2, ra2⟩ := S.c2
  have rd1 := Rd.list ⟨_, e1, rfl, _, rfl⟩ (fun x => not_own (List.mem_filter.mp x).1) (ra1.hid hid)
  have rd2 := Rd.list ⟨_, e2, rfl, _, rfl⟩ not_own (ra2.hid hid)
  have k := Kp.push s.heap { cls := .type "tuple", data := .seq [Value.ref l1, .ref l2].toArray }
  exact hQ _ _ s.toks s.heap.objs.size (G₈.trans' (Go.kp k _ Hs F _)) ((I₈.go (Go.kp k [] Hs F _) (I₈.wi.kp k) (I₈.mt.kp k) s.toks).sub fun x pv e => by cases e) (Rd.vr (Rd.newTup I₈.mt (.cons rd1 (.cons rd2 .nil))))
theorem sld_body {xs ys : List PyData} {L : Addr} {Q : Flow → Shared → Prop} {E : Value → Shared → Prop} (K : Know w A A env sc F L xs ys) (I : Si w A env sc F [] M Hs [(Str.ofString "expected", .dat (.list xs)), (Str.ofString "actual", .dat (.list ys))] wd s n)
    (om : ownKind sc "missing" = true) (ou : ownKind sc "unexpected" = true)
    (hQ : ∀ M' h' tk T, Go (Own env sc) Hs F M s.heap Hs M' h' → Si w A env sc F [] M' Hs [] wd { s with heap := h', toks := tk } n → Vr w.params h' M' Hs [] (.ref T) (.dat (.tuple [.list (sldR xs ys).1, .list (sldR xs ys).2])) → Q (.ret (.ref T)) { s with heap := h', toks := tk }) :
    wpAny (model PG w) A (execs cAll env) Q E s := by
  have I₀ := I.go (Go.kp (Kp.refl _) [] Hs F M) (I.wi.kp (Kp.refl _)) (I.mt.kp (Kp.refl _)) (s.toks + 1)
  refine execs_one (wpAny_Assign_two (wpAny_Constant_int (wpAny_assign_Name (store_snd I₀ K.oi (pv := .dat (.int 0)) (Rd.int 0 _).vr fun h₁ tk₁ p₁ G₁ I₁ => wpAny_assign_Name (store_snd I₁ K.oj (pv := .dat (.int 0)) (Rd.int 0 _).vr fun h₂ tk₂ p₂ G₂ I₂ => ?_)))))
  have G := G₁.trans' G₂
  clear I₀ I₁ G₁ G₂ p₁ p₂
  refine execs_one (fresh_list (s := { s with heap := h₂, toks := tk₂ }) I₂ om fun h₄ tk₄ l1 G₄ I₄ z₄ ap₁ c₄ => execs_one (fresh_list (s := { s with heap := h₄, toks := tk₄ }) I₄ ou fun h₆ tk₆ l2 G₆ I₆ z₆ ap₂ c₆ => ?_))
  have lt : l1 < l2 := Nat.lt_of_lt_of_le (Heap.lt_size c₄) z₆
  have c₄' := G₆.keep _ _ (Apart.own ap₁) ap₁.hl ap₁.fr c₄
  have big := Nat.le_trans G.size z₄
  have a : At w A env sc F M Hs wd s n l1 l2 xs ys 0 0 _ [] [] (l2 :: l1 :: M) { s with heap := h₆, toks := tk₆ } := ⟨⟨I₆, (G.trans' G₄).trans' G₆, big, Nat.le_trans big (Nat.le_of_lt lt), .tail _ (.head _), .head _, ap₁, ap₂, Nat.ne_of_lt lt, ⟨#[], 0, c₄', .nil⟩, ⟨#[], 0, c₆, .nil⟩⟩, ⟨rfl, rfl, rfl, rfl⟩, rfl, rfl, Nat.zero_le _, Nat.zero_le _⟩
  exact execs_one (a.loop K rfl rfl (Nat.le_trans sld_len.1 K.zx) (Nat.le_trans sld_len.2 K.zy) fun M₇ h₇ tk₇ vs₇ N₇ S₇ => execs_one (sld_end S₇ N₇ I.mt hQ))
end
theorem strLt_irrefl (x : Str) : strLt x x = false := by
  unfold strLt
  rw [decide_eq_false_iff_not]
  exact List.lt_irrefl _
theorem lt_strs {d f : PyData} (hd : isStrD d = true) (hf : isStrD f = true) : ltD d f = some (ltK d f) := by
  unfold isStrD at hd hf
  split at hd <;> first | cases hd | skip
  split at hf <;> first | cases hf | skip
  rfl
theorem lt_onesK {d f : PyData} (hd : isOneD d = true) (hf : isOneD f = true) : ltD d f = some (ltK d f) := by
  unfold isOneD at hd hf
  split at hd <;> first | cases hd | skip
  split at hf <;> first | cases hf | skip
  rename_i a _ b
  show some (if a == b then false else strLt a b) = some (strLt a b)
  split
  · rename_i h
    rw [eq_of_beq h, strLt_irrefl]
  · rfl
noncomputable def scS : Scope := sldD.2.2
theorem scS_ie : globV scS "IndexError" = true := by kernel_rfl!
theorem scS_e : ownKind scS "e" = true := by kernel_rfl!
theorem scS_a : ownKind scS "a" = true := by kernel_rfl!
theorem scS_m : ownKind scS "missing" = true := by kernel_rfl!
theorem scS_u : ownKind scS "unexpected" = true := by kernel_rfl!
theorem scS_i : ownKind scS "i" = true := by kernel_rfl!
theorem scS_j : ownKind scS "j" = true := by kernel_rfl!
section
variable {w : World} {A : Around} {env : Env} {sc : Scope} {F ML M M' : List Addr} {Hs : HL} {vs : Vars} {wd : Wd} {s : Shared} {n : Nat} {X : Value → Shared → Prop}
theorem sld_call {a b : List PyData} {r : PyData} {va vb : Value} {Q : Value → Shared → Prop} (e : sldV a b = some r) (I : Si w A env sc F ML M Hs vs wd s (n + 1)) (ra : Vr w.params s.heap M Hs ML va (.dat (.list a))) (rb : Vr w.params s.heap M Hs ML vb (.dat (.list b)))
    (hQ : PostE w F ML M Hs s Q (.dat r) wd) : wpAny (model PG w) A (call (.ref 45) [va, vb]) Q X s := by
  unfold sldV at e
  split at e
  · rename_i hz
    cases e
    simp only [Bool.and_eq_true, Bool.or_eq_true, okRow, decide_eq_true_eq, List.all_eq_true] at hz
    obtain ⟨⟨⟨a1, a2⟩, b1, b2⟩, hk⟩ := hz
    have hlt : ∀ d ∈ a, ∀ f ∈ b, ltD d f = some (ltK d f) ∧ ltD f d = some (ltK f d) := fun d hd f hf => by
      rcases hk with hk | hk
      · exact ⟨lt_strs (hk.1 d hd) (hk.2 f hf), lt_strs (hk.2 f hf) (hk.1 d hd)⟩
      · exact ⟨lt_onesK (hk.1 d hd) (hk.2 f hf), lt_onesK (hk.2 f hf) (hk.1 d hd)⟩
    refine wpAny_call (fn_codeS (ML := ML) (d := sldD) (args := ⟨[va, vb], []⟩) (s₀ := s) (vals := [va, vb]) (pvs := [.dat (.list a), .dat (.list b)]) (fl := .ret (.dat (.tuple [.list (sldM (a.length + b.length) a b).1, .list (sldM (a.length + b.length) a b).2]))) (vs' := []) (wd' := wd) (S₀ := [])
      (Rx := fun _ _ _ _ => True) (fun _ _ _ _ _ _ _ => trivial) I.wi.inK (sld_g w) (fun fd e => sld_b w _ _ fd e _ I.wi.inK) (fun {A env F' M' s' Q X} _ _ hfr I' hQ' => ?_) I.sb (.cons ra (.cons rb .nil)) rfl rfl rfl fun v Hs' M' h' tk G W m r _ => hQ v Hs' M' h' tk G W m r)
    show wpAny (model PG w) A (execs sldD.2.1 env) Q X s'
    rw [code_eq]
    refine sld_body (sc := sldD.2.2) (L := env.locals) ⟨I'.ai.handled, rfl, I'.ai.hu, ⟨hfr.1, hfr.2⟩, a1, b1, a2, b2, scS_i, scS_j, scS_e, scS_a, scS_ie, hlt⟩ I' scS_m scS_u fun M'' h' tk T G I'' r => ?_
    exact hQ' _ Hs M'' [] h' tk (by simpa using G) (fun _ x => no_mem x) I'' ⟨_, rfl, r⟩ trivial
  · cases e
end
theorem ns_len (w : World) : nsIn (KF w) mainGlobals (Str.ofString "len") = some none := by kernel_rfl!
theorem ns_sum (w : World) : nsIn (KF w) mainGlobals (Str.ofString "sum") = some none := by kernel_rfl!
theorem ns_sorted (w : World) : nsIn (KF w) mainGlobals (Str.ofString "sorted") = some none := by kernel_rfl!
theorem ns_max (w : World) : nsIn (KF w) mainGlobals (Str.ofString "max") = some none := by kernel_rfl!
theorem boot_len : bootBuiltins (Str.ofString "len") = some (.builtin "len") := by decide +kernel
theorem boot_sum : bootBuiltins (Str.ofString "sum") = some (.builtin "sum") := by decide +kernel
theorem boot_sorted : bootBuiltins (Str.ofString "sorted") = some (.builtin "sorted") := by decide +kernel
theorem boot_max : bootBuiltins (Str.ofString "max") = some (.builtin "max") := by decide +kernel
theorem ns_hdr (w : World) : nsIn (KF w) mainGlobals (Str.ofString "Headers") = some (some (.ref 189)) := by kernel_rfl!
theorem keep_hdr (w : World) : keepIn (KF w) (.ref 189) = true := by kernel_rfl!

section
variable {w : World} {A : Around} {env : Env} {sc : Scope} {F ML M M' : List Addr} {Hs : HL} {vs : Vars} {wd wd' : Wd} {s : Shared} {n : Nat} {pv : PV} {X : Value → Shared → Prop}
theorem Si.hdr (I : Si w A env sc F ML M Hs vs wd s n) (k : Nat) (p : Addr × Addr) (e : Hs[k]? = some p) : ∃ its, wd[k]? = some its ∧ HdrOk w.params s.heap M p its := by
  have hl := (List.getElem?_eq_some_iff.mp e).1
  rw [I.wi.len] at hl
  exact ⟨wd[k], by simp, I.wi.hd k p _ e (by simp)⟩
/-- a builtin of one argument -/
theorem Blt.one {f : Str} {fv : Value} {p : PV} (h1 : nsIn (KF w) mainGlobals f = some none) (h2 : bootBuiltins f = some fv) (h3 : f ≠ "__name__") (hf : ∀ a, fv ≠ .ref a) (h : ∀ {A env sc F ML M Hs vs s v} {Q : Value → Shared → Prop} {X}, Si w A env sc F ML M Hs vs wd s n → Vr w.params s.heap M Hs ML v p → PostE w F ML M Hs s Q pv wd' → wpAny (model PG w) A (call fv [v]) Q X s) : Blt w n f [p] wd pv wd' :=
  ⟨fv, .inr ⟨h1, h2, h3⟩, .inl hf, fun I r hQ => by
    obtain ⟨v, rfl, r1⟩ := r.one
    exact h I r1 hQ⟩
theorem blt1 (hn : 13 ≤ n) {f : Str} {pvs : List PV} (h : CallB f pvs wd pv wd') : Blt w n f pvs wd pv wd' := by
  induction h with
  | len q h1 hz => cases eq_of_beq q; exact .one (ns_len w) boot_len (by decide) (fun _ e => nomatch e) fun I r hQ => len_snd I h1 hz r hQ
  | sum q h1 h2 => cases eq_of_beq q; exact .one (ns_sum w) boot_sum (by decide) (fun _ e => nomatch e) fun I r hQ => sum_snd I h1 h2 r hQ
  | sorted q h1 =>
    cases eq_of_beq q
    refine .one (ns_sorted w) boot_sorted (by decide) (fun _ e => nomatch e) fun I r hQ => ?_
    unfold sortV at h1
    split at h1
    · rename_i hz
      cases h1
      exact sorted_str_snd I (of_decide_eq_true (and2 hz).1) (and2 hz).2 r hQ
    · split at h1
      · rename_i hz
        cases h1
        exact sorted_pair_snd I (of_decide_eq_true (and3 hz).1) (and3 hz).2.1 (of_decide_eq_true (and3 hz).2.2) r hQ
      · cases h1
  | max1 q h1 h2 => cases eq_of_beq q; exact .one (ns_max w) boot_max (by decide) (fun _ e => nomatch e) fun I r hQ => max_snd I h1 h2 r hQ
  | max2 q =>
    cases eq_of_beq q
    exact ⟨_, .inr ⟨ns_max w, boot_max, by decide⟩, .inl (fun _ e => nomatch e), fun I r hQ => by
      obtain ⟨u, v, rfl, r, r'⟩ := r.two
      exact max2_snd I r r' hQ⟩
  | list q hz => cases eq_of_beq q; exact .one (ns_list w) boot_list (by decide) (fun _ e => nomatch e) fun I r hQ => copy_snd I hz r hQ
  | abcd q hx => cases eq_of_beq q; cases eq_of_beq hx; exact .one (ns_list w) boot_list (by decide) (fun _ e => nomatch e) fun I r hQ => abcd_snd I (by decide) r hQ
  | sld q h1 =>
    cases eq_of_beq q
    refine ⟨_, .inl (sld_ns w), .inr (sld_keep w), fun I r hQ => ?_⟩
    obtain ⟨u, v, rfl, r, r'⟩ := r.two
    obtain ⟨n, rfl⟩ : ∃ k, n = k + 1 := ⟨n - 1, (Nat.sub_add_cancel (Nat.le_trans (by decide) hn)).symm⟩
    exact sld_call h1 I r r' hQ
  | hdr q =>
    cases eq_of_beq q
    exact ⟨_, .inl (ns_hdr w), .inr (keep_hdr w), fun I r hQ => by
      cases r
      exact make_call (I.less (Nat.le_trans (by decide) hn)) hQ⟩
/-- a method of the headers -/
theorem hdr_leaf {k : Nat} {m : Str} {f : Addr} {pvs : List PV} (hf : findIn (KF w) (.ref 189) m = some (some (.ref f))) (hk : keepIn (KF w) (.ref f) = true) (ht : typeIn (KF w) (.ref f) = some (.type "function")) (hm : (Str.ofString "_headers" == m) = false)
    (h : ∀ {A env sc F ML M Hs vs s vals a l} {Q : Value → Shared → Prop} {X}, Si w A env sc F ML M Hs vs wd s n → Hs[k]? = some (a, l) → All2 (Vr w.params s.heap M Hs ML) vals pvs → PostE w F ML M Hs s Q pv wd' → wpAny (model PG w) A (call (.ref f) (.ref a :: vals)) Q X s) : MthS w n (.hdr k) m pvs wd pv wd' := by
  intro A env sc F ML M Hs vs wd₀ s ov pl K X I r hK
  obtain ⟨b, l, rfl, e1⟩ := hdr_inv r
  obtain ⟨_, _, ⟨dx, t, z, d1, d2⟩, _⟩ := I.hdr k _ e1
  exact hd_meth I.wi.inK (Hid.of d1) (Hid.of d2) hf ht hm (hK _ [.ref b] (.inr hk) (fun {M' Hs' h' tk vals Q X} G I' r' hQ => h I' (G.hsGet _ _ e1) r' hQ) _ rfl)
theorem upper_leaf {x : Str} (hx : okT x = true) : MthS w n (.dat (.str x)) "upper" [] wd (.dat (.str (Txt.upper x))) wd := by
  intro A env sc F ML M Hs vs wd₀ s ov pl K X I r hK
  obtain ⟨t, rfl⟩ := r.rd.str_inv
  refine GM.upper (hK (.builtin "str.upper") [.str x t] (.inl fun _ e => nomatch e) (fun {M' Hs' h' tk vals Q X} G I' r' hQ => ?_) _ rfl)
  cases r'
  exact KXw.upper rfl (up_fit hx) fun t' k => hQ _ _ _ h' k (Go.refl _ _ _ _ _) I'.wi I'.mt (Rd.str _ _).vr
theorem meth1 (hn : 13 ≤ n) {a : PV} {m : Str} {pvs : List PV} (h : MethV a m pvs wd pv wd') : MthS w n a m pvs wd pv wd' := by
  induction h with
  | upper hm hx => cases eq_of_beq hm; exact upper_leaf hx
  | items hm e2 hi =>
    cases eq_of_beq hm
    refine hdr_leaf (m_items w).find (m_items w).keep (m_items w).type (by decide) fun I e1 r hQ => ?_
    cases r
    exact items_call hi (I.less (Nat.le_trans (by decide) hn)) e1 e2 hQ
  | get hm e2 hi hx =>
    cases eq_of_beq hm
    refine hdr_leaf (m_get w).find (m_get w).keep (m_get w).type (by decide) fun I e1 r hQ => ?_
    obtain ⟨v, rfl, r1⟩ := r.one
    exact get_call hx hi (I.less (Nat.le_trans (by decide) hn)) e1 e2 r1 hQ
  | all hm e2 hi hx =>
    cases eq_of_beq hm
    refine hdr_leaf (m_all w).find (m_all w).keep (m_all w).type (by decide) fun I e1 r hQ => ?_
    obtain ⟨v, rfl, r1⟩ := r.one
    exact all_call hx hi (I.less (Nat.le_trans (by decide) hn)) e1 e2 r1 hQ
  | add hm e2 hi hx hy =>
    cases eq_of_beq hm
    refine hdr_leaf (m_add w).find (m_add w).keep (m_add w).type (by decide) fun I e1 r hQ => ?_
    obtain ⟨u, v, rfl, r, r'⟩ := r.two
    exact add_call hx hy hi (I.less (Nat.le_trans (by decide) hn)) e1 e2 r r' hQ
theorem set1 (hn : 13 ≤ n) {k : Nat} {x y : Str} (h : SetV k x y wd wd') : SetS w n k x y wd wd' := by
  induction h with
  | mk e2 hi hx hy =>
    intro A env sc F ML M Hs vs s ov t u Q X I r hQ
    obtain ⟨b, l, rfl, e1⟩ := hdr_inv r
    exact setItem_hdr I e1 e2 (set_call hx hy hi (I.less (Nat.le_trans (by decide) hn)) e1 e2 (Rd.str _ _).vr (Rd.str _ _).vr fun v Hs' M' h' tk G W m _ => hQ Hs' M' h' tk G W m)
theorem leaf1 (w : World) (n : Nat) (hn : 13 ≤ n) : Leaf w lf1 n := ⟨fun h => blt1 hn h, fun h => meth1 hn h, fun h => set1 hn h, fun h => h.elim⟩
end
theorem law_g (w : World) : FnG w 256 (fnD "law") := by
  have h1 : (fdIn (KF w) 256).map (·.body) = some (.stmts (fnD "law").2.1) := by kernel_rfl!
  have h2 : (fdIn (KF w) 256).map (·.scope) = some (fnD "law").2.2 := by kernel_rfl!
  have h3 : (fdIn (KF w) 256).map (·.closure) = some [] := by kernel_rfl!
  have h4 : (fdIn (KF w) 256).map (fun fd => (fd.globals, fd.builtins)) = some (mainGlobals, builtinsNs) := by kernel_rfl!
  have h5 : (fdIn (KF w) 256).map (fun fd => codeIn (KF w) fd.code fd.qualname) = some true := by kernel_rfl!
  rw [Option.map_eq_some_iff] at h1
  obtain ⟨fd, e, h1⟩ := h1
  rw [e, Option.map_some, Option.some.injEq] at h2 h3 h4 h5
  rw [Prod.mk.injEq] at h4
  exact ⟨⟨fd, e, h1, h2, h3, h4.1, h4.2, h5⟩, by kernel_rfl!, by decide +kernel, by kernel_rfl!⟩
theorem law_b (w : World) (a : Value) : BindsG w 256 ⟨[a], []⟩ ((fnD "law").1.zip [a]) := bindsG_peek fun S => by kernel_rfl!
theorem law_ns (w : World) : nsIn (KF w) mainGlobals (Str.ofString "law") = some (some (.ref 256)) := by kernel_rfl!
/-- the law gives True -/
noncomputable def LawOk (ns : List Int) : Prop := ∃ vs wd, (evN lf1 40).exs (fnD "law").2.2 (fnD "law").2.1 ((fnD "law").1.zip [.dat (.list (ns.map .int))]) [] (.ret (.dat (.bool true))) vs wd
theorem law_call {w : World} {s : Shared} {v : Value} {ns : List Int} {Q : Value → Shared → Prop} {X : Value → Shared → Prop} (h : LawOk ns) (I : Sb w callerA [] [] [] [] s (53 + 1)) (r : Vr w.params s.heap [] [] [] v (.dat (.list (ns.map .int))))
    (hQ : ∀ h' tk, (∀ a o, s.heap.get? a = some o → h'.get? a = some o) → Q (.bool true) { s with heap := h', toks := tk }) : wpAny (model PG w) callerA (call (.ref 256) [v]) Q X s := by
  obtain ⟨vs, wd, he⟩ := h
  refine wpAny_call (fn_codeS (ML := []) (d := fnD "law") (args := ⟨[v], []⟩) (s₀ := s) (vals := [v]) (pvs := [.dat (.list (ns.map .int))]) (fl := .ret (.dat (.bool true))) (vs' := vs) (wd' := wd) (S₀ := [])
    (Rx := fun _ _ _ _ => True) (fun _ _ _ _ _ _ _ => trivial) I.wi.inK (law_g w) (fun fd e => law_b w _ fd e _ I.wi.inK) (fun {A env F' M' s' Q X} _ _ _ I' hQ' => ?_) I (.cons r .nil) rfl rfl rfl fun v Hs' M' h' tk G W m r _ => ?_)
  · refine (evN_snd (leaf1 w) 40).2.2 I' he fun f Hs₂ M₂ ML₂ h₂ tk₂ G₂ hm₂ I₂ fr₂ => ?_
    exact hQ' f Hs₂ M₂ ML₂ h₂ tk₂ (by simpa using G₂) (fun a x => (hm₂ a x).elim (fun x => no_mem x) id) I₂ fr₂ trivial
  · obtain rfl := r.rd.bool_inv
    exact hQ h' tk fun a o e => G.keep a o (fun x => no_mem x) (fun x => no_mem x) (fun x => no_mem x) e
theorem hid_nil (h : Heap) : Hid h [] = h := rfl
set_option maxHeartbeats 4000000 in
theorem join (H : ∀ ns : List Int, ns.length ≤ 63 → LawOk ns) : PySem.Challenge.rw_tv0041_01.Holds := by
  refine hd ?_
  intro w s₀ s₁ mg mb G Y fa o pm cd doc dV kV ho hd' hcd hD hmg hg args vals as hpre hlay hrd hwl hlo
  have KX := kIn_of Y
  have T := Ground.T G
  have hfa : fa = 256 := by
    have h1 : mg (Str.ofString "law") = some (.ref 256) := mg_of KX T.g (law_ns w)
    have h2 : mg (Str.ofString "law") = some (.ref fa) := hmg
    rw [h1] at h2
    cases h2
    rfl
  clear hd' hcd hD hmg
  subst hfa
  wrow_args hpre hlay hrd hwl hlo
  rename_i ns _ _ _ _ _ _ _ la ws _ hL hra _ hr0 hI _ hlen _
  have I : Sb w callerA [] [] [] [] s₁ (53 + 1) := by
    refine ⟨⟨rfl, ⟨[], rfl, rfl, fun _ x => no_mem x⟩, (fun _ x => no_mem x), by decide, by decide⟩, ⟨KX, ⟨mg, mb, T.g, T.b, T.nolimit, T.builtins⟩, rfl, (fun k p it e => by simp at e), (fun _ x => no_mem x), .nil⟩, (fun _ x => no_mem x), (fun _ x => no_mem x)⟩
  refine law_call (H ns (by omega)) I (Rd.vr (Rd.list hL (fun x => no_mem x) ⟨_, hra⟩)) fun h' tk kp => ?_
  refine ⟨.inl ⟨_, _, [], rfl, fun _ => rfl, ReadsW.bool true, ?_, fun _ => ⟨List.nodup_nil, nofun⟩⟩, .of_keep kp, rfl, .of_eq ?_⟩
  · first | rfl | wrow_post
  · first | rfl | assumption
/-! the game on four places, and its theory -/
noncomputable abbrev PS := Fin 4 → Bool
structure Gm where
  own : Fin 4 → Bool
  num : Fin 4 → Fin 4
  way : Fin 4 → Bool → Fin 4
noncomputable def Gm.isWay (G : Gm) (k j : Fin 4) : Prop := ∃ b, G.way k b = j
noncomputable def cyc (f : Fin 4 → Fin 4) (k : Fin 4) : List (Fin 4) := [f (f (f k)), f (f (f (f k))), f (f (f (f (f k)))), f (f (f (f (f (f k)))))]
noncomputable def mxL (l : List Nat) : Nat := l.foldl (fun m x => if x > m then x else m) 0
noncomputable def mx (G : Gm) (f : Fin 4 → Fin 4) (k : Fin 4) : Nat := mxL ((cyc f k).map fun j => (G.num j).val)
noncomputable def pr (G : Gm) (f : Fin 4 → Fin 4) (k : Fin 4) : Bool := mx G f k % 2 == 1
noncomputable def fn4 (a b c d : Fin 4) : Fin 4 → Fin 4
  | 0 => a
  | 1 => b
  | 2 => c
  | 3 => d
theorem fn4_eq (f : Fin 4 → Fin 4) : f = fn4 (f 0) (f 1) (f 2) (f 3) := by
  funext k
  match k with
  | 0 => rfl
  | 1 => rfl
  | 2 => rfl
  | 3 => rfl
theorem cyc_back (f : Fin 4 → Fin 4) (k j : Fin 4) : j ∈ cyc f (f (f (f k))) ↔ j ∈ cyc f k := by
  have h : ∀ a b c d k j : Fin 4, j ∈ cyc (fn4 a b c d) (fn4 a b c d (fn4 a b c d (fn4 a b c d k))) ↔ j ∈ cyc (fn4 a b c d) k := by decide +kernel
  rw [fn4_eq f]
  exact h _ _ _ _ k j
theorem cyc_step {f : Fin 4 → Fin 4} {k j : Fin 4} (h : j ∈ cyc f k) : f j ∈ cyc f k := by
  have hd : ∀ a b c d k j : Fin 4, j ∈ cyc (fn4 a b c d) k → fn4 a b c d j ∈ cyc (fn4 a b c d) k := by decide +kernel
  rw [fn4_eq f] at h ⊢
  exact hd _ _ _ _ k j h
theorem cyc_own {f : Fin 4 → Fin 4} {k j : Fin 4} (h : j ∈ cyc f k) : j ∈ cyc f j := by
  have hd : ∀ a b c d k j : Fin 4, j ∈ cyc (fn4 a b c d) k → j ∈ cyc (fn4 a b c d) j := by decide +kernel
  rw [fn4_eq f] at h ⊢
  exact hd _ _ _ _ k j h
theorem cyc_all {f : Fin 4 → Fin 4} {k j i : Fin 4} (h : j ∈ cyc f k) : i ∈ cyc f k ↔ i ∈ cyc f j := by
  have hd : ∀ a b c d k j i : Fin 4, j ∈ cyc (fn4 a b c d) k → (i ∈ cyc (fn4 a b c d) k ↔ i ∈ cyc (fn4 a b c d) j) := by decide +kernel
  rw [fn4_eq f] at h ⊢
  exact hd _ _ _ _ k j i h
theorem cyc_in {f : Fin 4 → Fin 4} {P : Fin 4 → Prop} {k : Fin 4} (hs : ∀ j, P j → P (f j)) (h : P k) : ∀ j ∈ cyc f k, P j := by
  intro j hj
  simp only [cyc, List.mem_cons, List.not_mem_nil, or_false] at hj
  have a := hs _ (hs _ (hs _ h))
  rcases hj with rfl | rfl | rfl | rfl
  · exact a
  · exact hs _ a
  · exact hs _ (hs _ a)
  · exact hs _ (hs _ (hs _ a))
theorem mxL_ge {l : List Nat} : ∀ {m : Nat}, m ≤ l.foldl (fun m x => if x > m then x else m) m ∧ (∀ x ∈ l, x ≤ l.foldl (fun m x => if x > m then x else m) m) ∧ (l.foldl (fun m x => if x > m then x else m) m = m ∨ l.foldl (fun m x => if x > m then x else m) m ∈ l) := by
  induction l with
  | nil => exact fun {m} => ⟨Nat.le_refl _, fun x h => (nomatch h), .inl rfl⟩
  | cons a r ih =>
    intro m
    rw [List.foldl_cons]
    obtain ⟨h1, h2, h3⟩ := ih (m := if a > m then a else m)
    by_cases hc : a > m
    · rw [if_pos hc] at h1 h2 h3 ⊢
      refine ⟨by omega, fun x h => ?_, ?_⟩
      · rcases List.mem_cons.mp h with rfl | h
        · exact h1
        · exact h2 x h
      · rcases h3 with h3 | h3
        · exact .inr (by rw [h3]; exact .head _)
        · exact .inr (.tail _ h3)
    · rw [if_neg hc] at h1 h2 h3 ⊢
      refine ⟨h1, fun x h => ?_, ?_⟩
      · rcases List.mem_cons.mp h with rfl | h
        · omega
        · exact h2 x h
      · rcases h3 with h3 | h3
        · exact .inl h3
        · exact .inr (.tail _ h3)
theorem mxL_is {l : List Nat} {t : Nat} (h : t ∈ l) (hl : ∀ x ∈ l, x ≤ t) : mxL l = t := by
  obtain ⟨_, h2, h3⟩ := mxL_ge (l := l) (m := 0)
  have := h2 t h
  unfold mxL
  rcases h3 with h3 | h3
  · omega
  · have := hl _ h3; omega
theorem mx_is {G : Gm} {f : Fin 4 → Fin 4} {k j : Fin 4} (h : j ∈ cyc f k) (hl : ∀ i ∈ cyc f k, (G.num i).val ≤ (G.num j).val) : mx G f k = (G.num j).val := by
  refine mxL_is (List.mem_map.mpr ⟨j, h, rfl⟩) fun x hx => ?_
  obtain ⟨i, hi, rfl⟩ := List.mem_map.mp hx
  exact hl i hi
theorem mx_top (G : Gm) (f : Fin 4 → Fin 4) (k : Fin 4) : ∃ j ∈ cyc f k, mx G f k = (G.num j).val ∧ ∀ i ∈ cyc f k, (G.num i).val ≤ (G.num j).val := by
  obtain ⟨_, h2, h3⟩ := mxL_ge (l := (cyc f k).map fun j => (G.num j).val) (m := 0)
  rcases h3 with h3 | h3
  · refine ⟨f (f (f k)), .head _, ?_, fun i hi => ?_⟩
    · have := h2 _ (List.mem_map.mpr ⟨f (f (f k)), .head _, rfl⟩)
      unfold mx mxL
      omega
    · have := h2 _ (List.mem_map.mpr ⟨i, hi, rfl⟩)
      omega
  · obtain ⟨j, hj, e⟩ := List.mem_map.mp h3
    refine ⟨j, hj, e.symm, fun i hi => ?_⟩
    exact Nat.le_trans (h2 _ (List.mem_map.mpr ⟨i, hi, rfl⟩)) (Nat.le_of_eq e.symm)
theorem mx_cyc (G : Gm) {f : Fin 4 → Fin 4} {k j : Fin 4} (h : j ∈ cyc f k) : mx G f k = mx G f j := by
  obtain ⟨i, hi, e, hl⟩ := mx_top G f k
  rw [e]
  exact (mx_is ((cyc_all h).mp hi) fun z hz => hl z ((cyc_all h).mpr hz)).symm
theorem pr_cyc (G : Gm) {f : Fin 4 → Fin 4} {k j : Fin 4} (h : j ∈ cyc f k) : pr G f k = pr G f j := by
  unfold pr
  rw [mx_cyc G h]

/-! attractors -/
section
variable {G : Gm} {S X A U W L V R : PS} {p q : Bool} {k : Fin 4}
noncomputable def cnd (G : Gm) (S : PS) (p : Bool) (I : PS) (k : Fin 4) : Bool :=
  ((!S (G.way k false) || I (G.way k false)) && (!S (G.way k true) || I (G.way k true))) || (G.own k == p && (S (G.way k false) && I (G.way k false) || S (G.way k true) && I (G.way k true)))
structure PullI (G : Gm) (S X : PS) (p : Bool) (A : PS) : Prop where
  xa : ∀ k, X k = true → A k = true
  sub : ∀ k, A k = true → S k = true
  ex : ∃ σ : Fin 4 → Fin 4, (∀ k, A k = true → X k = false → G.own k = p → G.isWay k (σ k) ∧ A (σ k) = true) ∧ (∀ k, A k = true → X k = false → G.own k ≠ p → ∀ b, S (G.way k b) = true → A (G.way k b) = true) ∧
    ∀ (f : Fin 4 → Fin 4) (C : Fin 4 → Prop), (∀ k, C k → S k = true ∧ C (f k) ∧ G.isWay k (f k) ∧ (A k = true → X k = false → G.own k = p → f k = σ k)) → (∃ k, C k ∧ A k = true) → ∃ k, C k ∧ X k = true
noncomputable def Live (G : Gm) (S : PS) : Prop := ∀ k, S k = true → ∃ b, S (G.way k b) = true
theorem pullI_start (h : ∀ k, X k = true → S k = true) : PullI G S X p X :=
  ⟨fun _ h => h, h, id, (fun k h1 h2 => by rw [h1] at h2; cases h2), (fun k h1 h2 => by rw [h1] at h2; cases h2), fun _ _ _ h => h⟩
noncomputable def addP (A : PS) (k : Fin 4) : PS := fun j => A j || j == k
theorem addP_iff {A : PS} {k j : Fin 4} : addP A k j = true ↔ A j = true ∨ j = k := by simp [addP]
theorem pullI_add (hl : Live G S) (P : PullI G S X p A) (hk : A k = false) (hS : S k = true) (hc : cnd G S p A k = true) : PullI G S X p (addP A k) := by
  obtain ⟨hxa, hsub, σ, h1, h2, h3⟩ := P
  have hX : X k = false := by
    cases e : X k with
    | false => rfl
    | true => rw [hxa k e] at hk; cases hk
  have c2 : G.own k ≠ p → ∀ b, S (G.way k b) = true → A (G.way k b) = true := by
    intro ho b hb
    unfold cnd at hc
    rw [show (G.own k == p) = false from by simpa using ho] at hc
    cases b <;> simp_all
  have c1 : ∃ b, A (G.way k b) = true := by
    obtain ⟨b, hb⟩ := hl k hS
    by_cases ho : G.own k = p
    · unfold cnd at hc
      simp only [ho, Bool.or_eq_true, Bool.and_eq_true, Bool.not_eq_true', beq_self_eq_true, true_and] at hc
      rcases hc with ⟨c1, c2⟩ | ⟨_, c⟩ | ⟨_, c⟩
      · cases b
        · rcases c1 with c | c
          · rw [hb] at c; cases c
          · exact ⟨_, c⟩
        · rcases c2 with c | c
          · rw [hb] at c; cases c
          · exact ⟨_, c⟩
      · exact ⟨_, c⟩
      · exact ⟨_, c⟩
    · exact ⟨b, c2 ho b hb⟩
  obtain ⟨b, hb⟩ := c1
  refine ⟨fun j h => addP_iff.mpr (.inl (hxa j h)), fun j h => ?_, fun j => if j = k then G.way k b else σ j, fun j hA hx ho => ?_, fun j hA hx ho b' hb' => ?_, fun f C hC hm => ?_⟩
  · rcases addP_iff.mp h with h | rfl
    · exact hsub j h
    · exact hS
  · by_cases e : j = k
    · subst e
      simp only [if_true]
      exact ⟨⟨b, rfl⟩, addP_iff.mpr (.inl hb)⟩
    · simp only [if_neg e]
      have := h1 j ((addP_iff.mp hA).resolve_right e) hx ho
      exact ⟨this.1, addP_iff.mpr (.inl this.2)⟩
  · by_cases e : j = k
    · subst e
      exact addP_iff.mpr (.inl (c2 ho b' hb'))
    · exact addP_iff.mpr (.inl (h2 j ((addP_iff.mp hA).resolve_right e) hx ho b' hb'))
  · have old : (∃ k, C k ∧ A k = true) → ∃ k, C k ∧ X k = true := h3 f C fun j hj => by
      obtain ⟨a1, a2, a3, a4⟩ := hC j hj
      refine ⟨a1, a2, a3, fun hA hx ho => ?_⟩
      have := a4 (addP_iff.mpr (.inl hA)) hx ho
      dsimp only at this
      rwa [if_neg (fun e => by subst e; rw [hk] at hA; cases hA)] at this
    obtain ⟨j, hj, hA⟩ := hm
    rcases addP_iff.mp hA with hA | rfl
    · exact old ⟨j, hj, hA⟩
    · obtain ⟨a1, a2, ⟨b', e⟩, a4⟩ := hC j hj
      refine old ⟨f j, a2, ?_⟩
      by_cases ho : G.own j = p
      · rw [a4 (addP_iff.mpr (.inr rfl)) hX ho]
        simp only [if_true]
        exact hb
      · have := (hC _ a2).1
        rw [← e] at this ⊢
        exact c2 ho b' this
/-- the attractor is whole -/
noncomputable def Fixed (G : Gm) (S : PS) (p : Bool) (A : PS) : Prop := ∀ k, S k = true → A k = false → cnd G S p A k = false
noncomputable def dif (S A : PS) : PS := fun k => S k && !A k
theorem dif_iff {S A : PS} {k : Fin 4} : dif S A k = true ↔ S k = true ∧ A k = false := by simp [dif]
theorem Fixed.out (h : Fixed G S p A) (hS : S k = true) (hA : A k = false) : ∃ b, S (G.way k b) = true ∧ A (G.way k b) = false := by
  have := h k hS hA
  unfold cnd at this
  rw [Bool.or_eq_false_iff, Bool.and_eq_false_iff] at this
  rcases this.1 with c | c
  · rw [Bool.or_eq_false_iff, Bool.not_eq_false'] at c
    exact ⟨_, c⟩
  · rw [Bool.or_eq_false_iff, Bool.not_eq_false'] at c
    exact ⟨_, c⟩
theorem Fixed.own (h : Fixed G S p A) (hS : S k = true) (hA : A k = false) (ho : G.own k = p) (b : Bool) (hb : S (G.way k b) = true) : A (G.way k b) = false := by
  have := h k hS hA
  unfold cnd at this
  rw [ho, beq_self_eq_true, Bool.true_and] at this
  simp only [Bool.or_eq_false_iff, Bool.and_eq_false_iff] at this
  cases b
  · rcases this.2.1 with c | c
    · rw [hb] at c; cases c
    · exact c
  · rcases this.2.2 with c | c
    · rw [hb] at c; cases c
    · exact c
theorem live_dif (h : Fixed G S p A) : Live G (dif S A) := fun k hk => by
  obtain ⟨hS, hA⟩ := dif_iff.mp hk
  obtain ⟨b, h1⟩ := h.out hS hA
  exact ⟨b, dif_iff.mpr h1⟩
/-! winning -/
noncomputable def Win (G : Gm) (U : PS) (p : Bool) (W : PS) : Prop :=
  ∃ σ : Fin 4 → Fin 4, (∀ k, W k = true → G.own k = p → G.isWay k (σ k) ∧ W (σ k) = true) ∧ (∀ k, W k = true → G.own k ≠ p → ∀ b, U (G.way k b) = true → W (G.way k b) = true) ∧
    ∀ (f : Fin 4 → Fin 4) (C : Fin 4 → Prop), (∀ k, C k → W k = true ∧ C (f k) ∧ G.isWay k (f k) ∧ (G.own k = p → f k = σ k)) → ∀ k, C k → pr G f k = p
theorem win_none : Win G U p (fun _ => false) := ⟨id, (fun k h => by cases h), (fun k h => by cases h), fun f C h k hk => by have := (h k hk).1; cases this⟩
/-- the top's owner wins all -/
theorem win_all {t : Nat} (hl : Live G U) (ht : ∀ k, U k = true → (G.num k).val ≤ t) (hq : q = (t % 2 == 1)) (hX : ∀ k, X k = true → U k = true ∧ (G.num k).val = t) (P : PullI G U X q A) (F : Fixed G U q A) (hW : Win G (dif U A) q (dif U A)) : Win G U q U := by
  obtain ⟨hxa, hsub, σ, h1, h2, h3⟩ := P
  obtain ⟨τ, g1, g2, g3⟩ := hW
  have hch : ∀ k, ∃ j, U k = true → G.isWay k j ∧ U j = true := fun k => by
    cases e : U k with
    | false => exact ⟨k, fun h => ff h⟩
    | true =>
      obtain ⟨b, hb⟩ := hl k e
      exact ⟨_, fun _ => ⟨⟨b, rfl⟩, hb⟩⟩
  obtain ⟨ρ, hρ⟩ := (⟨fun k => Classical.choose (hch k), fun k => Classical.choose_spec (hch k)⟩ : ∃ f : Fin 4 → Fin 4, ∀ k, U k = true → G.isWay k (f k) ∧ U (f k) = true)
  refine ⟨fun k => if A k = true then (if X k = true then ρ k else σ k) else τ k, fun k hk ho => ?_, fun _ _ _ _ h => h, fun f C hC k hk => ?_⟩
  · cases hA : A k with
    | false =>
      simp only [hA, Bool.false_eq_true, if_false]
      have := g1 k (dif_iff.mpr ⟨hk, hA⟩) ho
      exact ⟨this.1, (dif_iff.mp this.2).1⟩
    | true =>
      cases hx : X k with
      | true => simp only [hA, hx, if_true]; exact hρ k hk
      | false =>
        simp only [hA, hx, if_true, Bool.false_eq_true, if_false]
        have := h1 k hA hx ho
        exact ⟨this.1, hsub _ this.2⟩
  · have hCc : ∀ j ∈ cyc f k, C j := cyc_in (P := C) (fun j h => (hC j h).2.1) hk
    by_cases hm : ∃ j ∈ cyc f k, A j = true
    · obtain ⟨j, hj, hA⟩ := hm
      obtain ⟨i, hi, hx⟩ := h3 f (fun j => j ∈ cyc f k) (fun j hj => by
        obtain ⟨a1, _, a3, a4⟩ := hC j (hCc j hj)
        refine ⟨a1, cyc_step hj, a3, fun hA hx ho => ?_⟩
        have := a4 ho
        simp only [hA, hx, if_true, Bool.false_eq_true, if_false] at this
        exact this) ⟨j, hj, hA⟩
      have hn := (hX i hx).2
      unfold pr
      rw [mx_is hi fun z hz => by rw [hn]; exact ht z (hC z (hCc z hz)).1, hn, ← hq]
    · have hk' : f (f (f k)) ∈ cyc f k := .head _
      rw [pr_cyc G hk']
      refine g3 f (fun j => j ∈ cyc f k) (fun j hj => ?_) _ hk'
      obtain ⟨a1, _, a3, a4⟩ := hC j (hCc j hj)
      have hA : A j = false := by
        cases e : A j with
        | false => rfl
        | true => exact absurd ⟨j, hj, e⟩ hm
      refine ⟨dif_iff.mpr ⟨a1, hA⟩, cyc_step hj, a3, fun ho => ?_⟩
      have := a4 ho
      simp only [hA, Bool.false_eq_true, if_false] at this
      exact this
/-- the other's region, and what it pulls -/
theorem win_far {N Lo : PS} (FN : Fixed G U (!p) N) (hLo : ∀ k, Lo k = true → dif U N k = true) (hW : Win G (dif U N) p Lo) (P : PullI G U Lo p A) (F : Fixed G U p A) (hV : ∀ k, V k = true → dif U A k = true) (hWV : Win G (dif U A) p V) : Win G U p (fun k => A k || V k) := by
  obtain ⟨hxa, hsub, σ, h1, h2, h3⟩ := P
  obtain ⟨τ, g1, g2, g3⟩ := hW
  obtain ⟨ν, v1, v2, v3⟩ := hWV
  have hVA : ∀ k, A k = false → (A k || V k) = true → V k = true := fun k h1 h2 => by rw [h1] at h2; exact h2
  have hlo : ∀ k, Lo k = true → G.own k ≠ p → ∀ b, U (G.way k b) = true → Lo (G.way k b) = true := fun k hk ho b hb => by
    obtain ⟨hU, hN⟩ := dif_iff.mp (hLo k hk)
    refine g2 k hk ho b (dif_iff.mpr ⟨hb, FN.own hU hN ?_ b hb⟩)
    cases e1 : G.own k <;> cases p <;> simp_all
  refine ⟨fun k => if A k = true then (if Lo k = true then τ k else σ k) else ν k, fun k hk ho => ?_, fun k hk ho b hb => ?_, fun f C hC k hk => ?_⟩
  · cases hA : A k with
    | false =>
      simp only [hA, Bool.false_eq_true, if_false]
      have := v1 k (hVA k hA hk) ho
      exact ⟨this.1, by rw [Bool.or_eq_true]; exact .inr this.2⟩
    | true =>
      cases hx : Lo k with
      | true =>
        simp only [hA, hx, if_true]
        have := g1 k hx ho
        exact ⟨this.1, by rw [Bool.or_eq_true]; exact .inl (hxa _ this.2)⟩
      | false =>
        simp only [hA, hx, if_true, Bool.false_eq_true, if_false]
        have := h1 k hA hx ho
        exact ⟨this.1, by rw [Bool.or_eq_true]; exact .inl this.2⟩
  · rw [Bool.or_eq_true]
    cases hA : A k with
    | false =>
      cases e : A (G.way k b) with
      | true => exact .inl rfl
      | false => exact .inr (v2 k (hVA k hA hk) ho b (dif_iff.mpr ⟨hb, e⟩))
    | true =>
      cases hx : Lo k with
      | true => exact .inl (hxa _ (hlo k hx ho b hb))
      | false => exact .inl (h2 k hA hx ho b hb)
  · have hCc : ∀ j ∈ cyc f k, C j := cyc_in (P := C) (fun j h => (hC j h).2.1) hk
    have hk' : f (f (f k)) ∈ cyc f k := .head _
    have hU : ∀ j, C j → U j = true := fun j hj => by
      have := (hC j hj).1
      rw [Bool.or_eq_true] at this
      rcases this with h | h
      · exact hsub j h
      · exact (dif_iff.mp (hV j h)).1
    by_cases hm : ∃ j ∈ cyc f k, A j = true
    · obtain ⟨j, hj, hA⟩ := hm
      obtain ⟨i, hi, hx⟩ := h3 f (fun j => j ∈ cyc f k) (fun j hj => by
        obtain ⟨_, _, a3, a4⟩ := hC j (hCc j hj)
        refine ⟨hU j (hCc j hj), cyc_step hj, a3, fun hA hx ho => ?_⟩
        have := a4 ho
        simp only [hA, hx, if_true, Bool.false_eq_true, if_false] at this
        exact this) ⟨j, hj, hA⟩
      have hin : ∀ z ∈ cyc f i, z ∈ cyc f k ∧ Lo z = true := cyc_in (P := fun z => z ∈ cyc f k ∧ Lo z = true) (fun z hz => by
        obtain ⟨_, _, ⟨b, a3⟩, a4⟩ := hC z (hCc z hz.1)
        refine ⟨cyc_step hz.1, ?_⟩
        by_cases ho : G.own z = p
        · have := a4 ho
          simp only [hxa z hz.2, hz.2, if_true] at this
          rw [this]
          exact (g1 z hz.2 ho).2
        · rw [← a3]
          refine hlo z hz.2 ho b ?_
          rw [a3]
          exact hU _ (hCc _ (cyc_step hz.1))) ⟨hi, hx⟩
      rw [pr_cyc G hi]
      refine g3 f (fun z => z ∈ cyc f i) (fun z hz => ?_) i (cyc_own hi)
      obtain ⟨hz1, hz2⟩ := hin z hz
      obtain ⟨_, _, a3, a4⟩ := hC z (hCc z hz1)
      refine ⟨hz2, cyc_step hz, a3, fun ho => ?_⟩
      have := a4 ho
      simp only [hxa z hz2, hz2, if_true] at this
      exact this
    · rw [pr_cyc G hk']
      refine v3 f (fun j => j ∈ cyc f k) (fun j hj => ?_) _ hk'
      obtain ⟨a1, _, a3, a4⟩ := hC j (hCc j hj)
      have hA : A j = false := by
        cases e : A j with
        | false => rfl
        | true => exact absurd ⟨j, hj, e⟩ hm
      refine ⟨hVA j hA a1, cyc_step hj, a3, fun ho => ?_⟩
      have := a4 ho
      simp only [hA, Bool.false_eq_true, if_false] at this
      exact this
/-- what is left to the top's owner -/
theorem win_near (F : Fixed G U (!p) A) (hV : ∀ k, V k = true → dif U A k = true) (hWV : Win G (dif U A) p V) : Win G U p V := by
  obtain ⟨ν, v1, v2, v3⟩ := hWV
  refine ⟨ν, v1, fun k hk ho b hb => ?_, v3⟩
  obtain ⟨hU, hA⟩ := dif_iff.mp (hV k hk)
  refine v2 k hk ho b (dif_iff.mpr ⟨hb, F.own hU hA ?_ b hb⟩)
  cases e1 : G.own k <;> cases p <;> simp_all
end
/-! what sorted_list_difference tells of two rising rows -/
noncomputable def lastF (c : List (Fin 4)) : Fin 4 := c.getLast?.getD 0
noncomputable def okF (c pre : List (Fin 4)) (x : Fin 4) : Bool := !c.contains x && (!pre.contains x || c.isEmpty || decide (lastF c < x))
noncomputable def lkF (c : List (Fin 4)) : List (Fin 4) → List (Fin 4) → List (Fin 4)
  | _, [] => []
  | pre, x :: r => if okF c pre x then x :: lkF c (pre ++ [x]) r else lkF c (pre ++ [x]) r
noncomputable def Up (a : List (Fin 4)) : Prop := a.Pairwise (· ≤ ·)
noncomputable def sldF (n : Nat) (a c : List (Fin 4)) : List (Fin 4) × List (Fin 4) := sld (fun a b : Fin 4 => decide (a < b)) (fun a b => a == b) n a c
theorem lkF_cong {c c' : List (Fin 4)} : ∀ {a pre pre' : List (Fin 4)}, (∀ x ∈ a, c.contains x = c'.contains x ∧ pre.contains x = pre'.contains x ∧ (c.isEmpty || decide (lastF c < x)) = (c'.isEmpty || decide (lastF c' < x))) → lkF c pre a = lkF c' pre' a
  | [], _, _, _ => rfl
  | x :: r, pre, pre', h => by
    obtain ⟨h1, h2, h3⟩ := h x (.head _)
    have e : okF c pre x = okF c' pre' x := by unfold okF; rw [h1, h2, Bool.or_assoc, Bool.or_assoc, h3]
    have ih : lkF c (pre ++ [x]) r = lkF c' (pre' ++ [x]) r := lkF_cong fun y hy => by
      obtain ⟨g1, g2, g3⟩ := h y (.tail _ hy)
      refine ⟨g1, ?_, g3⟩
      rw [List.contains_eq_mem, List.contains_eq_mem] at g2 ⊢
      have g2 := decide_eq_decide.mp g2
      rw [decide_eq_decide, List.mem_append, List.mem_append, g2]
    rw [lkF, lkF, e, ih]
theorem lkF_skip {c : List (Fin 4)} {e : Fin 4} (hc : okF c [e] e = false) : ∀ {a : List (Fin 4)}, lkF c [e] a = lkF c [e] (a.dropWhile (· == e))
  | [] => rfl
  | x :: r => by
    rw [List.dropWhile_cons]
    cases q : x == e with
    | false => rfl
    | true =>
      have := eq_of_beq q
      subst this
      simp only [if_true]
      rw [lkF, hc, if_neg (by decide), ← lkF_skip hc]
      exact lkF_cong fun y _ => ⟨rfl, by simp [List.contains_eq_mem], rfl⟩
theorem up_drop {a : List (Fin 4)} {e : Fin 4} (h : Up (e :: a)) : Up (a.dropWhile (· == e)) := List.Pairwise.sublist (List.dropWhile_sublist _) (List.Pairwise.of_cons h)
theorem drop_gt {e : Fin 4} : ∀ {a : List (Fin 4)}, Up (e :: a) → ∀ x ∈ a.dropWhile (· == e), e < x
  | [], _, _, h => nomatch h
  | y :: r, hu, x, hx => by
    rw [List.dropWhile_cons] at hx
    have h1 : e ≤ y := (List.pairwise_cons.mp hu).1 y (.head _)
    cases q : y == e with
    | true =>
      rw [q, if_pos rfl] at hx
      have := eq_of_beq q
      subst this
      exact drop_gt (List.Pairwise.of_cons hu) x hx
    | false =>
      rw [q, if_neg (by decide)] at hx
      have hne : y ≠ e := by simpa using q
      have h2 : e < y := by omega
      rcases List.mem_cons.mp hx with rfl | hx
      · exact h2
      · have := (List.pairwise_cons.mp (List.Pairwise.of_cons hu)).1 x hx
        omega
theorem mem_drop {e x : Fin 4} (hx : x ≠ e) : ∀ {a : List (Fin 4)}, x ∈ e :: a ↔ x ∈ a.dropWhile (· == e)
  | [] => by simp [hx]
  | y :: r => by
    rw [List.dropWhile_cons]
    cases q : y == e with
    | true =>
      have := eq_of_beq q
      subst this
      rw [if_pos rfl, ← mem_drop hx]
      simp
    | false => simp [hx]
theorem last_drop {e : Fin 4} : ∀ {a : List (Fin 4)}, (a.dropWhile (· == e) = [] → lastF (e :: a) = e) ∧ (a.dropWhile (· == e) ≠ [] → lastF (e :: a) = lastF (a.dropWhile (· == e)))
  | [] => ⟨fun _ => rfl, fun h => absurd rfl h⟩
  | y :: r => by
    have ht : lastF (e :: y :: r) = lastF (y :: r) := by simp [lastF, List.getLast?_cons_cons]
    rw [List.dropWhile_cons, ht]
    cases q : y == e with
    | true =>
      have := eq_of_beq q
      subst this
      simp only [if_true]
      exact last_drop
    | false => exact ⟨(fun h => by cases h), fun _ => rfl⟩
theorem last_ge {f : Fin 4} : ∀ {c : List (Fin 4)}, Up (f :: c) → f ≤ lastF (f :: c)
  | [], _ => Nat.le_refl _
  | y :: r, h => by
    have ht : lastF (f :: y :: r) = lastF (y :: r) := by simp [lastF, List.getLast?_cons_cons]
    rw [ht]
    have := last_ge (List.Pairwise.of_cons h)
    have := (List.pairwise_cons.mp h).1 y (.head _)
    omega
theorem lkF_other {e : Fin 4} {a l : List (Fin 4)} (hl : ∀ x ∈ l, e < x) (pre : List (Fin 4)) : lkF (e :: a) pre l = lkF (a.dropWhile (· == e)) pre l := lkF_cong fun x hx => by
  have h1 := hl x hx
  have hne : x ≠ e := fun h => by subst h; omega
  refine ⟨?_, rfl, ?_⟩
  · rw [List.contains_eq_mem, List.contains_eq_mem, decide_eq_decide]
    exact mem_drop hne
  · cases q : a.dropWhile (· == e) with
    | nil => rw [last_drop.1 q]; simp [h1]
    | cons z r => rw [last_drop.2 (by rw [q]; exact fun h => nomatch h), q]; rfl
theorem lkF_less {e f : Fin 4} {a c : List (Fin 4)} (h : e < f) (ua : Up (e :: a)) (uc : Up (f :: c)) : lkF (f :: c) [] (e :: a) = e :: lkF (f :: c) [] (a.dropWhile (· == e)) := by
  have hn : (f :: c).contains e = false := by
    rw [List.contains_eq_mem]
    refine decide_eq_false fun hm => ?_
    rcases List.mem_cons.mp hm with rfl | hm
    · omega
    · have := (List.pairwise_cons.mp uc).1 e hm; omega
  have hl := last_ge uc
  have h1 : okF (f :: c) [] e = true := by unfold okF; rw [hn]; rfl
  have h2 : okF (f :: c) [e] e = false := by
    unfold okF
    rw [hn, show decide (lastF (f :: c) < e) = false from decide_eq_false (by omega)]
    simp
  rw [lkF, if_pos h1, List.nil_append, lkF_skip h2]
  congr 1
  refine lkF_cong fun x hx => ⟨rfl, ?_, rfl⟩
  have := drop_gt ua x hx
  rw [List.contains_eq_mem]
  refine decide_eq_false fun hm => ?_
  rcases List.mem_cons.mp hm with rfl | hm
  · omega
  · cases hm
theorem lkF_same {e : Fin 4} {a c : List (Fin 4)} (ua : Up (e :: a)) : lkF (e :: c) [] (e :: a) = lkF (c.dropWhile (· == e)) [] (a.dropWhile (· == e)) := by
  have h1 : ∀ pre, okF (e :: c) pre e = false := fun pre => by unfold okF; simp
  rw [lkF, if_neg (by rw [h1]; decide), List.nil_append, lkF_skip (h1 _), lkF_other (drop_gt ua)]
  refine lkF_cong fun x hx => ⟨rfl, ?_, rfl⟩
  have := drop_gt ua x hx
  rw [List.contains_eq_mem]
  refine decide_eq_false fun hm => ?_
  rcases List.mem_cons.mp hm with rfl | hm
  · omega
  · cases hm
theorem lkF_all : ∀ {a pre : List (Fin 4)}, lkF [] pre a = a
  | [], _ => rfl
  | x :: r, pre => by rw [lkF, if_pos (by simp [okF]), lkF_all]
theorem sld_lkF : ∀ {n : Nat} {a c : List (Fin 4)}, a.length + c.length ≤ n → Up a → Up c → sldF n a c = (lkF c [] a, lkF a [] c)
  | 0, [], [], _, _, _ => rfl
  | 0, _ :: _, _, h, _, _ => by simp at h
  | 0, [], _ :: _, h, _, _ => by simp at h
  | _ + 1, [], c, _, _, _ => by show ([], c) = _; rw [lkF_all]; rfl
  | _ + 1, e :: a, [], _, _, _ => by show (e :: a, []) = _; rw [lkF_all]; rfl
  | n + 1, e :: a, f :: c, hn, ua, uc => by
    simp only [List.length_cons] at hn
    have la : (a.dropWhile (· == e)).length ≤ a.length := (List.dropWhile_sublist _).length_le
    have lc : (c.dropWhile (· == f)).length ≤ c.length := (List.dropWhile_sublist _).length_le
    have gt : ∀ {g h : Fin 4} {l : List (Fin 4)}, g < h → Up (h :: l) → ∀ x ∈ h :: l, g < x := fun {g h l} hgh u x hx => by
      rcases List.mem_cons.mp hx with rfl | hx
      · exact hgh
      · have := (List.pairwise_cons.mp u).1 x hx; omega
    by_cases h1 : e < f
    · have ih := sld_lkF (n := n) (a := a.dropWhile (· == e)) (c := f :: c) (by simp only [List.length_cons]; omega) (up_drop ua) uc
      show (if decide (e < f) = true then (e :: (sldF n (a.dropWhile (· == e)) (f :: c)).1, (sldF n (a.dropWhile (· == e)) (f :: c)).2) else _) = _
      rw [if_pos (decide_eq_true h1), ih, lkF_less h1 ua uc, lkF_other (gt h1 uc)]
    · by_cases h2 : f < e
      · have ih := sld_lkF (n := n) (a := e :: a) (c := c.dropWhile (· == f)) (by simp only [List.length_cons]; omega) ua (up_drop uc)
        show (if decide (e < f) = true then _ else if decide (f < e) = true then ((sldF n (e :: a) (c.dropWhile (· == f))).1, f :: (sldF n (e :: a) (c.dropWhile (· == f))).2) else _) = _
        rw [if_neg (by simpa using h1), if_pos (decide_eq_true h2), ih, lkF_less h2 uc ua, lkF_other (gt h2 ua)]
      · have : e = f := by omega
        subst this
        have ih := sld_lkF (n := n) (a := a.dropWhile (· == e)) (c := c.dropWhile (· == e)) (by omega) (up_drop ua) (up_drop uc)
        show (if decide (e < e) = true then _ else if decide (e < e) = true then _ else sldF n (a.dropWhile (· == e)) (c.dropWhile (· == e))) = _
        rw [if_neg (by simp), if_neg (by simp), ih, lkF_same ua, lkF_same uc]
theorem sld_map {α β : Type} {g : α → β} {lt eq : β → β → Bool} {lt' eq' : α → α → Bool} (h1 : ∀ x y, lt (g x) (g y) = lt' x y) (h2 : ∀ x y, eq (g x) (g y) = eq' x y) : ∀ {n : Nat} {a c : List α}, sld lt eq n (a.map g) (c.map g) = ((sld lt' eq' n a c).1.map g, (sld lt' eq' n a c).2.map g)
  | 0, _, _ => rfl
  | _ + 1, [], _ => rfl
  | _ + 1, _ :: _, [] => rfl
  | n + 1, e :: a, f :: c => by
    have d : ∀ (e : α) (a : List α), (a.map g).dropWhile (fun x => eq x (g e)) = (a.dropWhile (fun x => eq' x e)).map g := fun e a => by
      rw [List.dropWhile_map]
      congr 2
      funext x
      exact h2 x e
    rw [List.map_cons, List.map_cons]
    unfold sld
    rw [h1, h1, d, d]
    have i1 := sld_map h1 h2 (n := n) (a := a.dropWhile (fun x => eq' x e)) (c := f :: c)
    have i2 := sld_map h1 h2 (n := n) (a := e :: a) (c := c.dropWhile (fun x => eq' x f))
    have i3 := sld_map h1 h2 (n := n) (a := a.dropWhile (fun x => eq' x e)) (c := c.dropWhile (fun x => eq' x f))
    rw [List.map_cons] at i1 i2
    rw [i1, i2, i3]
    split
    · rfl
    · split <;> rfl
/-- the script's comprehension -/
noncomputable def lacksF (a c : List (Fin 4)) : List (Fin 4) := ((List.range a.length).filter fun k => okF c (a.take k) (a[k]?.getD 0)).map fun k => a[k]?.getD 0
theorem lacks_lkF {c : List (Fin 4)} : ∀ {a pre : List (Fin 4)}, ((List.range a.length).filter fun k => okF c (pre ++ a.take k) (a[k]?.getD 0)).map (fun k => a[k]?.getD 0) = lkF c pre a
  | [], _ => rfl
  | x :: r, pre => by
    have ih := lacks_lkF (c := c) (a := r) (pre := pre ++ [x])
    rw [List.length_cons, List.range_succ_eq_map, List.filter_cons, List.filter_map]
    rw [lkF, ← ih]
    simp only [List.take_zero, List.append_nil, List.getElem?_cons_zero, Option.getD_some]
    have e : ((List.range r.length).filter ((fun k => okF c (pre ++ (x :: r).take k) ((x :: r)[k]?.getD 0)) ∘ Nat.succ)) = (List.range r.length).filter fun k => okF c (pre ++ [x] ++ r.take k) (r[k]?.getD 0) := by
      congr 1
      funext k
      simp
    rw [e]
    split
    · rw [List.map_cons, List.map_map]; rfl
    · rw [List.map_map]; rfl
theorem lacksF_lkF (a c : List (Fin 4)) : lacksF a c = lkF c [] a := lacks_lkF (c := c) (a := a) (pre := [])
/-! names and the places' texts -/
noncomputable abbrev nGame : Str := ⟨#[103, 97, 109, 101]⟩
noncomputable abbrev nFaults : Str := ⟨#[102, 97, 117, 108, 116, 115]⟩
noncomputable abbrev nArcs : Str := ⟨#[97, 114, 99, 115]⟩
noncomputable abbrev nBoard : Str := ⟨#[98, 111, 97, 114, 100]⟩
noncomputable abbrev nOwner : Str := ⟨#[111, 119, 110, 101, 114]⟩
noncomputable abbrev nNumber : Str := ⟨#[110, 117, 109, 98, 101, 114]⟩
noncomputable abbrev nRow : Str := ⟨#[114, 111, 119]⟩
noncomputable abbrev nOther : Str := ⟨#[111, 116, 104, 101, 114]⟩
noncomputable abbrev nFirst : Str := ⟨#[102, 105, 114, 115, 116]⟩
noncomputable abbrev nSecond : Str := ⟨#[115, 101, 99, 111, 110, 100]⟩
noncomputable abbrev nTold : Str := ⟨#[116, 111, 108, 100]⟩
noncomputable abbrev nPlaces : Str := ⟨#[112, 108, 97, 99, 101, 115]⟩
noncomputable abbrev nInside : Str := ⟨#[105, 110, 115, 105, 100, 101]⟩
noncomputable abbrev nPlayer : Str := ⟨#[112, 108, 97, 121, 101, 114]⟩
noncomputable abbrev nBefore : Str := ⟨#[98, 101, 102, 111, 114, 101]⟩
noncomputable abbrev nPlace : Str := ⟨#[112, 108, 97, 99, 101]⟩
noncomputable abbrev nWays : Str := ⟨#[119, 97, 121, 115]⟩
noncomputable abbrev nWay : Str := ⟨#[119, 97, 121]⟩
noncomputable abbrev nOutside : Str := ⟨#[111, 117, 116, 115, 105, 100, 101]⟩
noncomputable abbrev nBeyond : Str := ⟨#[98, 101, 121, 111, 110, 100]⟩
noncomputable abbrev nVerdict : Str := ⟨#[118, 101, 114, 100, 105, 99, 116]⟩
noncomputable abbrev nTop : Str := ⟨#[116, 111, 112]⟩
noncomputable abbrev nNear : Str := ⟨#[110, 101, 97, 114]⟩
noncomputable abbrev nRest : Str := ⟨#[114, 101, 115, 116]⟩
noncomputable abbrev nLost : Str := ⟨#[108, 111, 115, 116]⟩
noncomputable abbrev nFar : Str := ⟨#[102, 97, 114]⟩
noncomputable abbrev nCells : Str := ⟨#[99, 101, 108, 108, 115]⟩
noncomputable abbrev nHeads : Str := ⟨#[104, 101, 97, 100, 115]⟩
noncomputable abbrev nSpot : Str := ⟨#[115, 112, 111, 116]⟩
noncomputable abbrev nStep : Str := ⟨#[115, 116, 101, 112]⟩
noncomputable abbrev nPlays : Str := ⟨#[112, 108, 97, 121, 115]⟩
noncomputable abbrev nOwn : Str := ⟨#[111, 119, 110]⟩
noncomputable abbrev nK : Str := ⟨#[107]⟩
noncomputable abbrev nChoice : Str := ⟨#[99, 104, 111, 105, 99, 101]⟩
noncomputable abbrev nSure : Str := ⟨#[115, 117, 114, 101]⟩
noncomputable abbrev nMet : Str := ⟨#[109, 101, 116]⟩
noncomputable abbrev nRows : Str := ⟨#[114, 111, 119, 115]⟩
noncomputable abbrev nName : Str := ⟨#[110, 97, 109, 101]⟩
noncomputable abbrev nScript : Str := ⟨#[115, 99, 114, 105, 112, 116]⟩
noncomputable abbrev nPairs : Str := ⟨#[112, 97, 105, 114, 115]⟩
noncomputable abbrev nLaid : Str := ⟨#[108, 97, 105, 100]⟩
noncomputable abbrev nDue : Str := ⟨#[100, 117, 101]⟩
noncomputable abbrev nMore : Str := ⟨#[109, 111, 114, 101]⟩
noncomputable abbrev nText : Str := ⟨#[116, 101, 120, 116]⟩
noncomputable abbrev nTable : Str := ⟨#[116, 97, 98, 108, 101]⟩
noncomputable abbrev nPart : Str := ⟨#[112, 97, 114, 116]⟩
noncomputable def pl : Fin 4 → Str
  | 0 => ⟨#[97]⟩
  | 1 => ⟨#[98]⟩
  | 2 => ⟨#[99]⟩
  | 3 => ⟨#[100]⟩
noncomputable def pu : Fin 4 → Str
  | 0 => ⟨#[65]⟩
  | 1 => ⟨#[66]⟩
  | 2 => ⟨#[67]⟩
  | 3 => ⟨#[68]⟩
noncomputable def vS : Bool → Str
  | false => ⟨#[48]⟩
  | true => ⟨#[49]⟩
noncomputable def bI : Bool → Int
  | false => 0
  | true => 1
noncomputable def eS (k : Fin 4) : PyData := .str (pl k)
noncomputable def eL (k : Fin 4) : PyData := .list [.str (pl k)]
theorem pl_ok : ∀ k, okT (pl k) = true := by decide +kernel
theorem pu_ok : ∀ k, okT (pu k) = true := by decide +kernel
theorem vS_ok : ∀ k, okT (vS k) = true := by decide +kernel
theorem up_pl : ∀ k, Txt.upper (pl k) = pu k := by decide +kernel
theorem low_pl : ∀ k, lowT (pl k) = pl k := by decide +kernel
theorem low_pu : ∀ k, lowT (pu k) = pl k := by decide +kernel
theorem pl_eq : ∀ a b, (pl a == pl b) = (a == b) := by decide +kernel
theorem pl_lt : ∀ a b, strLt (pl a) (pl b) = decide (a < b) := by decide +kernel
theorem vS_eq : ∀ a b, (vS a == vS b) = (a == b) := by decide +kernel
theorem bI_eq : ∀ a b, (bI a == bI b) = (a == b) := by decide +kernel

/-! shapes -/
noncomputable def Shp (k : Nat) (d : PyData) : Prop := d.canLay0 = true ∧ d.depth ≤ k
theorem Shp.ok {k : Nat} {d : PyData} (h : Shp k d) (hk : k ≤ 64) : SeqAt.shaped d = true := by
  unfold SeqAt.shaped
  rw [h.1, decide_eq_true (Nat.le_trans h.2 hk)]; rfl
theorem Shp.le {k m : Nat} {d : PyData} (h : Shp k d) (hk : k ≤ m) : Shp m d := ⟨h.1, Nat.le_trans h.2 hk⟩
theorem shp_str {x : Str} (hx : okT x = true) : Shp 0 (.str x) := okT_cases (P := fun x => Shp 0 (.str x)) (fun x hx => ⟨by revert x; decide +kernel, Nat.le_refl _⟩) hx
theorem shp_none : Shp 0 .none := ⟨rfl, Nat.le_refl _⟩
theorem shp_int {i : Int} : Shp 0 (.int i) := ⟨rfl, Nat.le_refl _⟩
theorem shp_all {k : Nat} : ∀ {xs : List PyData}, (∀ x ∈ xs, Shp k x) → PyData.canLayAll0 xs = true ∧ PyData.depthAll xs ≤ k
  | [], _ => ⟨rfl, Nat.zero_le _⟩
  | x :: r, h => by
    obtain ⟨h1, h2⟩ := h x (.head _)
    obtain ⟨h3, h4⟩ := shp_all (xs := r) fun y hy => h y (.tail _ hy)
    refine ⟨by rw [PyData.canLayAll0, h1, h3]; rfl, by rw [PyData.depthAll]; omega⟩
theorem shp_list {k : Nat} {xs : List PyData} (h : ∀ x ∈ xs, Shp k x) : Shp (k + 1) (.list xs) := by
  obtain ⟨h1, h2⟩ := shp_all h
  exact ⟨by rw [PyData.canLay0]; exact h1, by rw [PyData.depth]; omega⟩
theorem shp_tup {k : Nat} {xs : List PyData} (h : ∀ x ∈ xs, Shp k x) : Shp (k + 1) (.tuple xs) := by
  obtain ⟨h1, h2⟩ := shp_all h
  exact ⟨by rw [PyData.canLay0]; exact h1, by rw [PyData.depth]; omega⟩
theorem shp_map {α : Type} {g : α → PyData} {k : Nat} (h : ∀ x, Shp k (g x)) (l : List α) : ∀ x ∈ l.map g, Shp k x := fun x hx => by
  obtain ⟨y, _, rfl⟩ := List.mem_map.mp hx
  exact h y
theorem eq_refl {k : Nat} {d : PyData} (h : Shp k d) (hk : k ≤ 64) : eqD d d = some true := by
  unfold eqD
  rw [h.ok hk, if_pos (by rfl), SeqAt.eqv_refl d h.1]
theorem ne_refl {k : Nat} {d : PyData} (h : Shp k d) (hk : k ≤ 64) : cmpV .NotEq (.dat d) (.dat d) = some false := by
  show (eqD d d).map _ = _
  rw [eq_refl h hk]; rfl
theorem eqq_refl {k : Nat} {d : PyData} (h : Shp k d) (hk : k ≤ 64) : cmpV .Eq (.dat d) (.dat d) = some true := eq_refl h hk

/-- rows are told by one text each -/
structure Enc (g : Fin 4 → PyData) : Prop where
  shp : ∀ k, Shp 1 (g k)
  eq : ∀ a b, PyData.eqv (g a) (g b) = (a == b)
  lt : ∀ a b, ltD (g a) (g b) = some (decide (a < b))
  lk : ∀ a b, ltK (g a) (g b) = decide (a < b)
  one : (∀ k, isStrD (g k) = true) ∨ ∀ k, isOneD (g k) = true
theorem enc_S : Enc eS := ⟨fun k => (shp_str (pl_ok k)).le (by decide), fun a b => by unfold eS; rw [PyData.eqv, pl_eq], fun a b => by show some (strLt (pl a) (pl b)) = _; rw [pl_lt], fun a b => by show strLt (pl a) (pl b) = _; rw [pl_lt], .inl fun _ => rfl⟩
theorem enc_L : Enc eL := by
  refine ⟨fun k => shp_list fun x hx => ?_, fun a b => by simp [eL, PyData.eqv, PyData.eqvAll, pl_eq], fun a b => ?_, fun a b => by show strLt (pl a) (pl b) = _; rw [pl_lt], .inr fun _ => rfl⟩
  · rw [List.mem_singleton] at hx; subst hx; exact shp_str (pl_ok k)
  · show some (if pl a == pl b then false else strLt (pl a) (pl b)) = _
    rw [pl_eq, pl_lt]
    by_cases h : a = b
    · subst h; simp
    · rw [if_neg (by simpa using h)]
section
variable {g : Fin 4 → PyData} (H : Enc g)
include H
theorem Enc.eqL : ∀ {a b : List (Fin 4)}, PyData.eqvAll (a.map g) (b.map g) = (a == b)
  | [], [] => rfl
  | [], _ :: _ => rfl
  | _ :: _, [] => rfl
  | x :: a, y :: b => by
    rw [List.map_cons, List.map_cons, PyData.eqvAll, H.eq, Enc.eqL (a := a) (b := b)]; rfl
theorem Enc.shpL (a : List (Fin 4)) : Shp 2 (.list (a.map g)) := shp_list (shp_map H.shp a)
theorem Enc.eqqL {a b : List (Fin 4)} : cmpV .Eq (.dat (.list (a.map g))) (.dat (.list (b.map g))) = some (a == b) := by
  show eqD _ _ = _
  unfold eqD
  rw [(H.shpL a).ok (by decide), (H.shpL b).ok (by decide), Bool.and_self, if_pos rfl, PyData.eqv, H.eqL]
theorem Enc.neL {a b : List (Fin 4)} : cmpV .NotEq (.dat (.list (a.map g))) (.dat (.list (b.map g))) = some (!(a == b)) := by
  show (eqD _ _).map _ = _
  have := H.eqqL (a := a) (b := b)
  rw [show eqD _ _ = some (a == b) from this]; rfl
theorem Enc.inD {x : Fin 4} {l : List (Fin 4)} (hz : l.length ≤ small) : Mine.inD (g x) (l.map g) = some (l.contains x) := by
  unfold Mine.inD
  have h2 : (l.map g).all SeqAt.shaped = true := by
    rw [List.all_eq_true]
    exact fun y hy => (shp_map H.shp l y hy).ok (by decide)
  rw [(H.shp x).ok (by decide), h2, List.length_map, decide_eq_true hz, if_pos (by rfl)]
  congr 1
  rw [List.any_map]
  induction l with
  | nil => rfl
  | cons y r ih =>
    rw [List.any_cons, List.contains_cons, ih (by rw [List.length_cons] at hz; omega)]
    · congr 1
      show PyData.eqv (g y) (g x) = _
      rw [H.eq]
      exact Bool.beq_comm
    · rw [List.map_cons, List.all_cons, Bool.and_eq_true] at h2; exact h2.2
theorem Enc.inV {x : Fin 4} {l : List (Fin 4)} (hz : l.length ≤ small) : cmpV .In (.dat (g x)) (.dat (.list (l.map g))) = some (l.contains x) := by
  show Mine.inD _ _ = _
  rw [H.inD hz]
theorem Enc.niV {x : Fin 4} {l : List (Fin 4)} (hz : l.length ≤ small) : cmpV .NotIn (.dat (g x)) (.dat (.list (l.map g))) = some (!l.contains x) := by
  show (Mine.inD _ _).map _ = _
  rw [H.inD hz]; rfl
theorem Enc.gtV {a b : Fin 4} : cmpV .Gt (.dat (g a)) (.dat (g b)) = some (decide (b < a)) := H.lt b a
theorem Enc.sld {a c : List (Fin 4)} (ha : a.length ≤ 60) (hc : c.length ≤ 60) (ua : Up a) (uc : Up c) : sldV (a.map g) (c.map g) = some (.tuple [.list ((lkF c [] a).map g), .list ((lkF a [] c).map g)]) := by
  have ok : ∀ {l : List (Fin 4)}, l.length ≤ 60 → okRow (l.map g) = true := fun {l} hl => by
    unfold okRow
    rw [List.length_map, decide_eq_true hl, Bool.true_and, List.all_eq_true]
    exact fun y hy => (shp_map H.shp l y hy).ok (by decide)
  have al : ∀ {f : PyData → Bool}, (∀ k, f (g k) = true) → ∀ {l : List (Fin 4)}, (l.map g).all f = true := fun {f} h {l} => by
    rw [List.all_eq_true]
    intro y hy
    obtain ⟨z, _, rfl⟩ := List.mem_map.mp hy
    exact h z
  unfold sldV
  rw [if_pos, sld_map (g := g) H.lk H.eq, List.length_map, List.length_map]
  · have := sld_lkF (n := a.length + c.length) (Nat.le_refl _) ua uc
    unfold sldF at this
    rw [this]
  · rw [ok ha, ok hc]
    rcases H.one with h | h
    · rw [al h, al h]; rfl
    · rw [al (f := isOneD) h, al (f := isOneD) h]; simp
end

/-! a call of the text's own def -/
theorem k_call {L : Lf} {E : Ev} {f : Str} {a : Addr} {args : List PV} {wd wd' : Wd} {v : PV} {vs' : Vars} {fl : Fl} (h1 : lawDefs.lookup f = some a) (h3 : (decide ((fnD f).1.length = args.length) && args.all notMut) = true) (h4 : E.exs (fnD f).2.2 (fnD f).2.1 ((fnD f).1.zip args) wd fl vs' wd') (h5 : retV fl = v) : CallF L E f args wd v wd' := by
  subst h5
  exact .own h1 (of_decide_eq_true (and2 h3).1) (and2 h3).2 h4
noncomputable abbrev fN_lay : Str := ⟨#[95, 108, 97, 119, 95, 108, 97, 121]⟩
noncomputable abbrev fN_lacks : Str := ⟨#[95, 108, 97, 119, 95, 108, 97, 99, 107, 115]⟩
noncomputable abbrev fN_told : Str := ⟨#[95, 108, 97, 119, 95, 116, 111, 108, 100]⟩
noncomputable abbrev fN_pull : Str := ⟨#[95, 108, 97, 119, 95, 112, 117, 108, 108]⟩
noncomputable abbrev fN_write : Str := ⟨#[95, 108, 97, 119, 95, 119, 114, 105, 116, 101]⟩
noncomputable abbrev fN_judge : Str := ⟨#[95, 108, 97, 119, 95, 106, 117, 100, 103, 101]⟩
noncomputable abbrev fN_ring : Str := ⟨#[95, 108, 97, 119, 95, 114, 105, 110, 103]⟩
noncomputable abbrev fN_sure : Str := ⟨#[95, 108, 97, 119, 95, 115, 117, 114, 101]⟩
noncomputable abbrev fN_all : Str := ⟨#[95, 108, 97, 119, 95, 97, 108, 108]⟩
noncomputable abbrev fN_anew : Str := ⟨#[95, 108, 97, 119, 95, 97, 110, 101, 119]⟩
theorem fO_lay : lawDefs.lookup fN_lay = some 198 := by decide +kernel
theorem fO_lacks : lawDefs.lookup fN_lacks = some 203 := by decide +kernel
theorem fO_told : lawDefs.lookup fN_told = some 210 := by decide +kernel
theorem fO_pull : lawDefs.lookup fN_pull = some 215 := by decide +kernel
theorem fO_write : lawDefs.lookup fN_write = some 222 := by decide +kernel
theorem fO_judge : lawDefs.lookup fN_judge = some 227 := by decide +kernel
theorem fO_ring : lawDefs.lookup fN_ring = some 234 := by decide +kernel
theorem fO_sure : lawDefs.lookup fN_sure = some 239 := by decide +kernel
theorem fO_all : lawDefs.lookup fN_all = some 244 := by decide +kernel
theorem fO_anew : lawDefs.lookup fN_anew = some 251 := by decide +kernel
theorem k_blt {L : Lf} {E : Ev} {f : Str} {args : List PV} {wd wd' : Wd} {v : PV} (h2 : L.cb f args wd v wd') : CallF L E f args wd v wd' := .blt h2

/-! names within comprehensions -/
section
variable {sc : Scope} {vs : Vars} {x y : Str} {v p : PV}
theorem n_seen (h : (kindIn sc x == some .free) = true) (hl : vs.lookup x = some v) : (seenIn sc vs).lookup x = some v := by
  unfold seenIn
  induction vs with
  | nil => cases hl
  | cons q r ih =>
    obtain ⟨z, w⟩ := q
    rw [lookup_cons'] at hl
    rw [List.filter_cons]
    split at hl
    · rename_i e
      subst e
      rw [if_pos h, lookup_cons', if_pos rfl, hl]
    · rename_i e
      split
      · rw [lookup_cons', if_neg e]; exact ih hl
      · exact ih hl
theorem seen_none (h : (kindIn sc x == some .free) = false) : (seenIn sc vs).lookup x = none := by
  cases q : (seenIn sc vs).lookup x with
  | none => rfl
  | some pv => rw [(seen_look q).1] at h; exact absurd h (by decide)
theorem own_free (h : ownKind sc x = true) : (kindIn sc x == some .free) = false := by
  unfold ownKind at h
  split at h <;> rename_i e <;> first | (rw [e]; rfl) | cases h
theorem n_tail (h : (y == x) = false) (hl : vs.lookup y = some v) : ((x, p) :: vs).lookup y = some v := by
  rw [lookup_cons', if_neg (fun e => by subst e; rw [beq_self_eq_true] at h; cases h)]; exact hl
theorem n_head : ((x, v) :: vs).lookup x = some v := by rw [lookup_cons', if_pos rfl]
theorem b_name {q : Pos} (h : (ownKind sc x && notMut v) = true) : BindF sc (.Name x q) v (seenIn sc vs) ((x, v) :: seenIn sc vs) := .name (and2 h).1 (and2 h).2 (seen_none (own_free (and2 h).1))
theorem b_pair {q q' q'' : Pos} {k : Nat} {a b : PyData} (h : (ownKind sc x && ownKind sc y) = true) : BindF sc (.Tuple [.Name x q, .Name y q'] k q'') (.dat (.tuple [a, b])) (seenIn sc vs) ((y, .dat b) :: (x, .dat a) :: seenIn sc vs) := .pair (and2 h).1 (and2 h).2 (seen_none (own_free (and2 h).1)) (seen_none (own_free (and2 h).2))
end
theorem len_ev {xs : List PyData} {m : Nat} {wd : Wd} (hz : m ≤ small) (hm : xs.length = m) : lf1.cb ⟨#[108, 101, 110]⟩ [.dat (.list xs)] wd (.dat (.int (m : Int))) wd := by
  subst hm
  exact CallB.len rfl rfl hz
theorem list_ev {xs : List PyData} {wd : Wd} (hz : xs.length ≤ small) : lf1.cb ⟨#[108, 105, 115, 116]⟩ [.dat (.list xs)] wd (.dat (.list xs)) wd := CallB.list rfl hz
theorem sub_nat {xs : List PyData} {k : Nat} {d : PyData} (hz : xs.length ≤ small) (h : xs[k]? = some d) : subV (.dat (.list xs)) (.dat (.int (k : Int))) = some (.dat d) := by
  show (if xs.length ≤ small then (idxD xs (k : Int)).map PV.dat else none) = _
  rw [if_pos hz]
  unfold idxD
  rw [if_pos (Int.natCast_nonneg k), Int.toNat_natCast, h]; rfl
theorem sub_last {xs : List PyData} {d : PyData} (hz : xs.length ≤ small) (h : xs.getLast? = some d) : subV (.dat (.list xs)) (.dat (.int (-1))) = some (.dat d) := by
  show (if xs.length ≤ small then (idxD xs (-1)).map PV.dat else none) = _
  rw [if_pos hz]
  have h0 : xs ≠ [] := by intro e; subst e; cases h
  have h1 : 0 < xs.length := List.length_pos_iff.mpr h0
  unfold idxD
  rw [if_neg (by decide), if_pos (by omega)]
  have : ((-1 : Int) + (xs.length : Int)).toNat = xs.length - 1 := by omega
  rw [this, ← List.getLast?_eq_getElem?, h]; rfl
theorem some_lacks {g : Fin 4 → PyData} {a : List (Fin 4)} {k : Nat} (hk : k < a.length) : (a.map g)[k]? = some (g (a[k]?.getD 0)) := by
  rw [List.getElem?_map, List.getElem?_eq_getElem hk]; rfl

theorem p_some {ev : Expr → Wd → PV → Wd → Prop} {e : Expr} {wd wd' : Wd} {i : Int} (h : ev e wd (.dat (.int i)) wd') : POpt ev (some e) wd (some i) wd' := .some h
theorem lacks_exs {n : Nat} {g : Fin 4 → PyData} (H : Enc g) {a c : List (Fin 4)} (ha : a.length ≤ 60) (hc : c.length ≤ 60) {wd : Wd} :
    ∃ vs', (evN lf1 (n + 8)).exs (fnD fN_lacks).2.2 (fnD fN_lacks).2.1 ((fnD fN_lacks).1.zip [.dat (.list (a.map g)), .dat (.list (c.map g))]) wd (.ret (.dat (.list ((lkF c [] a).map g)))) vs' wd := by
  generalize hb : (fnD fN_lacks) = d
  conv at hb => 
    lhs
    reduce
  subst hb
  have sm : small = 1000 := rfl
  have la : (a.map g).length ≤ small := by rw [List.length_map]; omega
  have lc : (c.map g).length ≤ small := by rw [List.length_map]; omega
  refine ⟨_, x_ret (s_ret ?_)⟩
  rw [← lacksF_lkF]
  have e1 : (lacksF a c).map g = ((List.range a.length).filter fun k => okF c (a.take k) (a[k]?.getD 0)).map fun k => g (a[k]?.getD 0) := by
    unfold lacksF; rw [List.map_map]; rfl
  rw [e1]
  refine r_lc rfl (i_range (k := (a.length : Int)) rfl rfl rfl (r_call rfl (r_one rfl (r_name rfl rfl)) (k_blt (len_ev (by omega) (List.length_map ..)))) ?_) (c_one (ys := List.range a.length) (enc := fun (i : Nat) => PyData.int (i : Int)) (fun k hk => ?_) ?_)
  · rw [Bool.and_eq_true, decide_eq_true_eq, decide_eq_true_eq]; omega
  · have hk : k < a.length := List.mem_range.mp hk
    have hx := some_lacks (g := g) hk
    generalize hxx : a[k]?.getD 0 = x at *
    refine ⟨_, b_name rfl, ?_, fun _ => r_sub rfl (r_name rfl rfl) (r_name rfl rfl) (sub_nat la hx)⟩
    have e2 : okF c (a.take k) x = ((!c.contains x) && (((!(a.take k).contains x) || ((c == []) || (decide (lastF c < x) || false))) && true)) := by
      unfold okF
      rw [Bool.or_false, Bool.and_true, Bool.or_assoc]
      cases c <;> rfl
    rw [e2]
    refine t_one (r_tbool (r_and (r_tcmp (r_sub rfl (r_name rfl rfl) (r_name rfl rfl) (sub_nat la hx)) (r_name rfl rfl) rfl (H.niV (by omega))) fun _ => r_and (r_tbool (r_or (r_tcmp (r_sub rfl (r_name rfl rfl) (r_name rfl rfl) (sub_nat la hx)) (r_slice (r_name rfl rfl) .none (p_some (r_name rfl rfl)) .none (by decide) la) rfl (by rw [pickL_upto _ _ (by rw [List.length_map]; omega), ← List.map_take]; exact H.niV (by rw [List.length_take]; omega))) fun _ => r_or (r_tcmp (r_name rfl rfl) (r_list r_nil (Nat.zero_le _) rfl) rfl (H.eqqL (b := []))) fun h => r_or (r_tcmp (r_sub rfl (r_name rfl rfl) (r_name rfl rfl) (sub_nat la hx)) (r_sub rfl (r_name rfl rfl) (r_neg (r_const rfl)) (sub_last lc ?_)) rfl H.gtV) fun _ => r_or_nil)) fun _ => r_and_nil))
    have : c ≠ [] := fun e => by subst e; cases h
    rw [List.getLast?_map]
    unfold lastF
    cases q : c.getLast? with
    | none => exact absurd (List.getLast?_eq_none_iff.mp q) this
    | some z => rfl
  · rw [List.length_range]; omega
/-- a suite ends so -/
noncomputable def Outs (n : Nat) (sc : Scope) (b : List Stmt) (vs : Vars) (wd : Wd) (P : Fl → Vars → Wd → Prop) : Prop := ∃ fl vs' wd', (evN lf1 n).exs sc b vs wd fl vs' wd' ∧ P fl vs' wd'
section
variable {n : Nat} {sc : Scope} {b o : List Stmt} {st : Stmt} {vs vs₁ : Vars} {wd wd₁ : Wd} {P Q : Fl → Vars → Wd → Prop} {v : PV} {e : Expr} {p : Pos}
theorem o_mono (h : Outs n sc b vs wd P) (hq : ∀ fl vs' wd', P fl vs' wd' → Q fl vs' wd') : Outs n sc b vs wd Q := by
  obtain ⟨fl, vs', wd', h1, h2⟩ := h
  exact ⟨fl, vs', wd', h1, hq _ _ _ h2⟩
theorem o_nil (h : P .next vs wd) : Outs (n + 1) sc [] vs wd P := ⟨_, _, _, x_nil, h⟩
theorem o_next (h1 : ExStep lf1 (evN lf1 n) sc st vs wd .next vs₁ wd₁) (h2 : Outs (n + 1) sc b vs₁ wd₁ P) : Outs (n + 1) sc (st :: b) vs wd P := by
  obtain ⟨fl, vs', wd', h3, h4⟩ := h2
  exact ⟨fl, vs', wd', x_next h1 h3, h4⟩
theorem o_ret (h1 : ExStep lf1 (evN lf1 n) sc st vs wd (.ret v) vs₁ wd₁) (h2 : P (.ret v) vs₁ wd₁) : Outs (n + 1) sc (st :: b) vs wd P := ⟨_, _, _, x_ret h1, h2⟩
theorem o_ifT {r : List Stmt} (h1 : (evN lf1 n).tst sc e vs wd true wd₁) (h2 : Outs n sc b vs wd₁ fun fl vs' wd' => match fl with | .next => Outs (n + 1) sc r vs' wd' P | .ret v => P (.ret v) vs' wd') : Outs (n + 1) sc (.If e b o p :: r) vs wd P := by
  obtain ⟨fl, vs', wd', h3, h4⟩ := h2
  cases fl with
  | next => exact o_next (s_ifT h1 h3) h4
  | ret v => exact o_ret (s_ifT h1 h3) h4
theorem o_ifF {r : List Stmt} (h1 : (evN lf1 n).tst sc e vs wd false wd₁) (h2 : Outs n sc o vs wd₁ fun fl vs' wd' => match fl with | .next => Outs (n + 1) sc r vs' wd' P | .ret v => P (.ret v) vs' wd') : Outs (n + 1) sc (.If e b o p :: r) vs wd P := by
  obtain ⟨fl, vs', wd', h3, h4⟩ := h2
  cases fl with
  | next => exact o_next (s_ifF h1 h3) h4
  | ret v => exact o_ret (s_ifF h1 h3) h4
/-- a for loop that goes to its end, by an invariant over what is behind it -/
theorem o_for {α : Type} {enc : α → PyData} {ys : List α} {xs : List PyData} {t : Expr} {r : List Stmt} {I : List α → Vars → Wd → Prop} (h1 : ItersOf (evN lf1 n) sc vs e wd xs wd₁) (hx : xs = ys.map enc) (h0 : I [] vs wd₁)
    (h2 : ∀ pre y post vs wd, ys = pre ++ y :: post → I pre vs wd → ∃ vs', BindT sc t (.dat (enc y)) vs vs' ∧ Outs n sc b vs' wd fun fl vs'' wd'' => fl = .next ∧ I (pre ++ [y]) vs'' wd'')
    (h3 : ∀ vs' wd', I ys vs' wd' → Outs (n + 1) sc r vs' wd' P) : Outs (n + 1) sc (.For t e b [] p :: r) vs wd P := by
  subst hx
  have key : ∀ (post pre : List α) (vs : Vars) (wd : Wd), ys = pre ++ post → I pre vs wd → ∃ vs' wd', ForL (evN lf1 n) sc t b (post.map enc) vs wd .next vs' wd' ∧ I ys vs' wd' := by
    intro post
    induction post with
    | nil =>
      intro pre vs wd he hi
      rw [List.append_nil] at he
      subst he
      exact ⟨vs, wd, .nil, hi⟩
    | cons y post ih =>
      intro pre vs wd he hi
      obtain ⟨vs', hb, fl, vs'', wd'', hx, rfl, hi'⟩ := h2 pre y post vs wd he hi
      obtain ⟨vs₃, wd₃, h4, h5⟩ := ih (pre ++ [y]) vs'' wd'' (by rw [he, List.append_assoc]; rfl) hi'
      exact ⟨vs₃, wd₃, .next hb hx h4, h5⟩
  obtain ⟨vs', wd', h4, h5⟩ := key ys [] vs wd₁ rfl h0
  exact o_next (s_for h1 h4) (h3 vs' wd' h5)
/-- a while loop, by an invariant and a bound -/
theorem o_while {r : List Stmt} {I : Nat → Vars → Wd → Prop} {J : Vars → Wd → Prop} {m : Nat} (hm : m < 40) (h0 : I m vs wd)
    (h1 : ∀ m vs wd, I m vs wd → ((evN lf1 n).tst sc e vs wd false wd ∧ J vs wd) ∨ ((evN lf1 n).tst sc e vs wd true wd ∧ ∃ m', m = m' + 1 ∧ Outs n sc b vs wd fun fl vs' wd' => fl = .next ∧ I m' vs' wd'))
    (h3 : ∀ vs' wd', J vs' wd' → Outs (n + 1) sc r vs' wd' P) : Outs (n + 1) sc (.While e b [] p :: r) vs wd P := by
  have key : ∀ (f m : Nat) (vs : Vars) (wd : Wd), m < f → I m vs wd → ∃ vs' wd', WhileL (evN lf1 n) sc e b f vs wd vs' wd' ∧ J vs' wd' := by
    intro f
    induction f with
    | zero => intro m vs wd h; exact absurd h (Nat.not_lt_zero _)
    | succ f ih =>
      intro m vs wd hm hi
      rcases h1 m vs wd hi with ⟨h2, h3⟩ | ⟨h2, m', rfl, fl, vs', wd', hx, rfl, hi'⟩
      · exact ⟨vs, wd, .stop h2, h3⟩
      · obtain ⟨vs₃, wd₃, h4, h5⟩ := ih m' vs' wd' (Nat.lt_of_succ_lt_succ hm) hi'
        exact ⟨vs₃, wd₃, .go h2 hx h4, h5⟩
  obtain ⟨vs', wd', h4, h5⟩ := key 40 m vs wd hm h0
  exact o_next (.while h4) (h3 vs' wd' h5)
theorem r_tb {op : BoolOp} {es : List Expr} {r k : Bool} (h : AllT (fun e wd => (evN lf1 n).tst sc e vs wd) op es wd r wd₁) (hk : r = k) : (evN lf1 (n + 1)).tst sc (.BoolOp op es p) vs wd k wd₁ := by
  subst hk; exact .bool h
theorem t_oneE {f : Expr → Wd → Bool → Wd → Prop} {r k : Bool} (h : f e wd r wd) (hk : r = k) : Tests f [e] wd k wd := by
  subst hk; exact t_one h
end
theorem o_call {n : Nat} {f : Str} {a : Addr} {args : List PV} {wd wd' : Wd} {v : PV} (h1 : lawDefs.lookup f = some a) (h3 : (decide ((fnD f).1.length = args.length) && args.all notMut) = true) (h4 : Outs n (fnD f).2.2 (fnD f).2.1 ((fnD f).1.zip args) wd fun fl _ wd'' => retV fl = v ∧ wd'' = wd') : CallF lf1 (evN lf1 n) f args wd v wd' := by
  obtain ⟨fl, vs', wd'', h5, h6, rfl⟩ := h4
  exact k_call h1 h3 h5 h6
/-- a call of which just a part is told -/
theorem o_callE {n : Nat} {f : Str} {a : Addr} {args : List PV} {wd : Wd} {R : PV → Wd → Prop} (h1 : lawDefs.lookup f = some a) (h3 : (decide ((fnD f).1.length = args.length) && args.all notMut) = true) (h4 : Outs n (fnD f).2.2 (fnD f).2.1 ((fnD f).1.zip args) wd fun fl _ wd'' => R (retV fl) wd'') : ∃ v wd', CallF lf1 (evN lf1 n) f args wd v wd' ∧ R v wd' := by
  obtain ⟨fl, vs', wd'', h5, h6⟩ := h4
  exact ⟨_, wd'', k_call h1 h3 h5 rfl, h6⟩

theorem lacks_call {n : Nat} {g : Fin 4 → PyData} (H : Enc g) {a c : List (Fin 4)} (ha : a.length ≤ 60) (hc : c.length ≤ 60) {wd : Wd} :
    CallF lf1 (evN lf1 (n + 8)) fN_lacks [.dat (.list (a.map g)), .dat (.list (c.map g))] wd (.dat (.list ((lkF c [] a).map g))) wd := by
  obtain ⟨vs', h⟩ := lacks_exs (n := n) H ha hc (wd := wd)
  exact k_call fO_lacks (by rfl) h rfl
/-- what the difference tells -/
noncomputable def toldD (g : Fin 4 → PyData) (a c : List (Fin 4)) : PyData := .tuple [.list ((lkF c [] a).map g), .list ((lkF a [] c).map g)]
theorem Enc.shpT {g : Fin 4 → PyData} (H : Enc g) (a c : List (Fin 4)) : Shp 3 (toldD g a c) := shp_tup fun x hx => by
  rcases List.mem_cons.mp hx with rfl | hx
  · exact H.shpL _
  · rw [List.mem_singleton] at hx; subst hx; exact H.shpL _
theorem told_call {n : Nat} {g : Fin 4 → PyData} (H : Enc g) {a c : List (Fin 4)} (ha : a.length ≤ 60) (hc : c.length ≤ 60) (ua : Up a) (uc : Up c) {gv : PV} (hg : notMut gv = true) {wd : Wd} :
    CallF lf1 (evN lf1 (n + 13)) fN_told [gv, .dat (.list (a.map g)), .dat (.list (c.map g))] wd (.dat (toldD g a c)) wd := by
  refine o_call fO_told (by show (true && (notMut gv && true)) = true; rw [hg]; rfl) ?_
  generalize hb : (fnD fN_told) = d
  conv at hb => 
    lhs
    reduce
  subst hb
  have sm : small = 1000 := rfl
  have la : (a.map g).length ≤ small := by rw [List.length_map]; omega
  have lc : (c.map g).length ≤ small := by rw [List.length_map]; omega
  refine o_next (s_tup rfl (r_tuple (r_two rfl rfl (r_call rfl (r_one rfl (r_name rfl rfl)) (k_blt (list_ev la))) (r_call rfl (r_one rfl (r_name rfl rfl)) (k_blt (list_ev lc)))) rfl) (.pair rfl rfl)) ?_
  refine o_next (s_name rfl (r_call rfl (r_two rfl rfl (r_name rfl rfl) (r_name rfl rfl)) (k_blt (CallB.sld rfl (H.sld ha hc ua uc)))) rfl) ?_
  refine o_next (s_ifF (r_tb (r_or (r_tcmp (r_name rfl rfl) (r_tuple (r_two rfl rfl (r_call rfl (r_two rfl rfl (r_name rfl rfl) (r_name rfl rfl)) (lacks_call H ha hc)) (r_call rfl (r_two rfl rfl (r_name rfl rfl) (r_name rfl rfl)) (lacks_call H hc ha))) rfl) rfl (ne_refl (H.shpT a c) (by decide))) fun _ => r_or (r_tcmp (r_name rfl rfl) (r_name rfl rfl) rfl (ne_refl (H.shpL a) (by decide))) fun _ => r_or (r_tcmp (r_name rfl rfl) (r_name rfl rfl) rfl (ne_refl (H.shpL c) (by decide))) fun _ => r_or_nil) rfl) x_nil) ?_
  exact o_ret (s_ret (r_name rfl rfl)) ⟨rfl, rfl⟩
/-! rows of places -/
noncomputable def all4 : List (Fin 4) := [0, 1, 2, 3]
noncomputable def rowOf (S : PS) : List (Fin 4) := all4.filter S
theorem mem_all4 : ∀ k : Fin 4, k ∈ all4 := by decide
theorem mem_row {S : PS} {k : Fin 4} : k ∈ rowOf S ↔ S k = true := by
  unfold rowOf; rw [List.mem_filter]; exact ⟨fun h => h.2, fun h => ⟨mem_all4 k, h⟩⟩
theorem row_has {S : PS} {k : Fin 4} : (rowOf S).contains k = S k := by
  rw [List.contains_eq_mem]
  cases h : S k with
  | true => exact decide_eq_true (mem_row.mpr h)
  | false => exact decide_eq_false fun hm => by rw [mem_row.mp hm] at h; cases h
theorem row_lt {S : PS} : (rowOf S).Pairwise (· < ·) := List.Pairwise.filter _ (by decide)
theorem row_up {S : PS} : Up (rowOf S) := row_lt.imp fun h => Nat.le_of_lt h
theorem row_nodup {S : PS} : (rowOf S).Nodup := row_lt.imp fun h e => by subst e; exact absurd h (Nat.lt_irrefl _)
theorem row_len {S : PS} : (rowOf S).length ≤ 4 := List.length_filter_le _ _
theorem row_inj {S T : PS} (h : rowOf S = rowOf T) : S = T := by
  funext k
  rw [← row_has (S := S), ← row_has (S := T), h]
theorem row_eq {S T : PS} : (rowOf S == rowOf T) = decide (∀ k, S k = T k) := by
  by_cases h : ∀ k, S k = T k
  · rw [decide_eq_true h, show S = T from funext h, beq_self_eq_true]
  · rw [decide_eq_false h, beq_eq_false_iff_ne]
    exact fun e => h fun k => by rw [row_inj e]
theorem row_nil {S : PS} : rowOf S = [] ↔ ∀ k, S k = false := by
  constructor
  · intro h k
    rw [← row_has (S := S), h]; rfl
  · intro h
    rw [show S = fun _ => false from funext h]; rfl
theorem filter_row {S : PS} {f : Fin 4 → Bool} : (rowOf S).filter f = rowOf fun k => S k && f k := by
  unfold rowOf; rw [List.filter_filter]
  congr 1
  funext k
  exact Bool.and_comm _ _
theorem lkF_filter {c : List (Fin 4)} : ∀ {a pre : List (Fin 4)}, a.Nodup → (∀ x ∈ a, x ∉ pre) → lkF c pre a = a.filter fun x => !c.contains x
  | [], _, _, _ => rfl
  | x :: r, pre, hn, hp => by
    have h1 : pre.contains x = false := by rw [List.contains_eq_mem]; exact decide_eq_false (hp x (.head _))
    have h2 : okF c pre x = !c.contains x := by unfold okF; rw [h1]; simp
    have hn' := List.nodup_cons.mp hn
    rw [lkF, h2, List.filter_cons, lkF_filter hn'.2]
    intro y hy hm
    rcases List.mem_append.mp hm with hm | hm
    · exact hp y (.tail _ hy) hm
    · rw [List.mem_singleton] at hm; subst hm; exact hn'.1 hy
theorem lkF_row {S : PS} {c : List (Fin 4)} : lkF c [] (rowOf S) = rowOf fun k => S k && !c.contains k := by
  rw [lkF_filter row_nodup (fun _ _ h => (List.not_mem_nil h).elim), filter_row]
theorem lkF_dif {S T : PS} : lkF (rowOf T) [] (rowOf S) = rowOf (dif S T) := by
  rw [lkF_row]; congr 1; funext k; rw [row_has]; rfl
theorem lkF_nil {c : List (Fin 4)} : ∀ {a pre : List (Fin 4)}, lkF c pre a = [] → ∀ x ∈ a, x ∈ c ∨ x ∈ pre
  | [], _, _, _, h => nomatch h
  | x :: r, pre, h, y, hy => by
    rw [lkF] at h
    split at h
    · cases h
    · rename_i q
      have hx : x ∈ c ∨ x ∈ pre := by
        unfold okF at q
        rw [List.contains_eq_mem, List.contains_eq_mem] at q
        by_cases hc : x ∈ c
        · exact .inl hc
        · by_cases hp : x ∈ pre
          · exact .inr hp
          · exact absurd (by simp [hc, hp]) q
      rcases List.mem_cons.mp hy with rfl | hy
      · exact hx
      · rcases lkF_nil h y hy with h1 | h1
        · exact .inl h1
        · rcases List.mem_append.mp h1 with h1 | h1
          · exact .inr h1
          · rw [List.mem_singleton] at h1; subst h1; exact hx
theorem lkF_none {c : List (Fin 4)} : ∀ {a pre : List (Fin 4)}, (∀ x ∈ a, x ∈ c) → lkF c pre a = []
  | [], _, _ => rfl
  | x :: r, pre, h => by
    have : okF c pre x = false := by unfold okF; rw [List.contains_eq_mem, decide_eq_true (h x (.head _))]; rfl
    rw [lkF, this, if_neg (by decide)]
    exact lkF_none fun y hy => h y (.tail _ hy)

/-! sorting -/
noncomputable def insF (x : Fin 4) : List (Fin 4) → List (Fin 4)
  | [] => [x]
  | y :: r => if y < x then y :: insF x r else x :: y :: r
noncomputable def sortF (l : List (Fin 4)) : List (Fin 4) := l.foldr insF []
theorem insD_map {lt : PyData → PyData → Bool} {g : Fin 4 → PyData} (h : ∀ a b, lt (g a) (g b) = decide (a < b)) (x : Fin 4) : ∀ l : List (Fin 4), insD lt (g x) (l.map g) = (insF x l).map g
  | [] => rfl
  | y :: r => by
    rw [List.map_cons, insD, insF, h, insD_map h x r]
    by_cases q : y < x
    · rw [if_pos q, if_pos (decide_eq_true q)]; rfl
    · rw [if_neg q, if_neg (by simpa using q)]; rfl
theorem sortD_map {lt : PyData → PyData → Bool} {g : Fin 4 → PyData} (h : ∀ a b, lt (g a) (g b) = decide (a < b)) : ∀ l : List (Fin 4), sortD lt (l.map g) = (sortF l).map g
  | [] => rfl
  | y :: r => by
    show insD lt (g y) (sortD lt (r.map g)) = _
    rw [sortD_map h r, insD_map h]; rfl
theorem insF_perm (x : Fin 4) : ∀ l : List (Fin 4), (insF x l).Perm (x :: l)
  | [] => .refl _
  | y :: r => by
    rw [insF]
    split
    · exact ((insF_perm x r).cons y).trans (.swap x y r)
    · exact .refl _
theorem sortF_perm : ∀ l : List (Fin 4), (sortF l).Perm l
  | [] => .refl _
  | x :: r => (insF_perm x _).trans ((sortF_perm r).cons x)
theorem insF_up (x : Fin 4) : ∀ {l : List (Fin 4)}, Up l → Up (insF x l)
  | [], _ => List.pairwise_singleton _ _
  | y :: r, h => by
    obtain ⟨h1, h2⟩ := List.pairwise_cons.mp h
    rw [insF]
    split
    · rename_i q
      refine List.pairwise_cons.mpr ⟨fun z hz => ?_, insF_up x h2⟩
      rcases List.mem_cons.mp ((insF_perm x r).mem_iff.mp hz) with rfl | hz
      · omega
      · exact h1 z hz
    · rename_i q
      refine List.pairwise_cons.mpr ⟨fun z hz => ?_, h⟩
      rcases List.mem_cons.mp hz with rfl | hz
      · omega
      · have := h1 z hz; omega
theorem sortF_up : ∀ l : List (Fin 4), Up (sortF l)
  | [] => List.Pairwise.nil
  | x :: r => insF_up x (sortF_up r)
theorem sortF_mem {l : List (Fin 4)} {x : Fin 4} : x ∈ sortF l ↔ x ∈ l := (sortF_perm l).mem_iff
theorem sortF_len (l : List (Fin 4)) : (sortF l).length = l.length := (sortF_perm l).length_eq
theorem up_perm {a b : List (Fin 4)} (h : a.Perm b) (ha : Up a) (hb : Up b) : a = b := List.Perm.eq_of_pairwise (le := fun x y : Fin 4 => x ≤ y) (fun x y _ _ h1 h2 => by omega) ha hb h
theorem sort_add {A : PS} {k : Fin 4} (hk : A k = false) : sortF (rowOf A ++ [k]) = rowOf (addP A k) := by
  refine up_perm ((sortF_perm _).trans ?_) (sortF_up _) row_up
  refine (List.perm_ext_iff_of_nodup ?_ row_nodup).mpr fun x => ?_
  · rw [List.nodup_append]
    refine ⟨row_nodup, by simp, fun x hx y hy e => ?_⟩
    rw [List.mem_singleton] at hy
    subst e hy
    rw [mem_row] at hx
    rw [hx] at hk; cases hk
  · rw [List.mem_append, mem_row, mem_row, List.mem_singleton, addP_iff]
theorem row_add_len {A : PS} {k : Fin 4} (hk : A k = false) : (rowOf (addP A k)).length = (rowOf A).length + 1 := by
  rw [← sort_add hk, sortF_len, List.length_append]; rfl
theorem row_sub_len {A B : PS} (h : ∀ k, A k = true → B k = true) : (rowOf A).length ≤ (rowOf B).length := by
  have : rowOf A = (rowOf B).filter A := by
    rw [filter_row]; congr 1; funext k
    cases e : A k with
    | true => rw [h k e]; rfl
    | false => rw [Bool.and_false]
  rw [this]; exact List.length_filter_le _ _
theorem row_sub_lt {A B : PS} (h : ∀ k, A k = true → B k = true) {j : Fin 4} (h1 : B j = true) (h2 : A j = false) : (rowOf A).length < (rowOf B).length := by
  have := row_sub_len (A := addP A j) (B := B) fun k hk => (addP_iff.mp hk).elim (h k) fun e => by subst e; exact h1
  rw [row_add_len h2] at this
  omega
theorem lkF_len {W : List (Fin 4)} {A : PS} : ((lkF W [] (rowOf A)).length < (rowOf A).length) ↔ ∃ x ∈ W, A x = true := by
  rw [lkF_row]
  constructor
  · intro h
    refine Classical.byContradiction fun hn => ?_
    refine absurd h (Nat.not_lt.mpr (row_sub_len fun k hk => ?_))
    rw [hk, Bool.true_and, Bool.not_eq_true', List.contains_eq_mem]
    exact decide_eq_false fun hm => hn ⟨k, hm, hk⟩
  · rintro ⟨x, hx, hA⟩
    refine row_sub_lt (fun k hk => by rw [Bool.and_eq_true] at hk; exact hk.1) hA ?_
    rw [List.contains_eq_mem, decide_eq_true hx]; simp
theorem upper_ev {x : Fin 4} {wd : Wd} : lf1.mv (.dat (eS x)) ⟨#[117, 112, 112, 101, 114]⟩ [] wd (.dat (.str (pu x))) wd := by
  rw [← up_pl]
  exact MethV.upper rfl (pl_ok x)
theorem all_ev {i : Nat} {its : List (Str × Str)} {x : Str} {wd : Wd} (hw : wd[i]? = some its) (hi : okI its = true) (hx : okT x = true) : lf1.mv (.hdr i) ⟨#[103, 101, 116, 95, 97, 108, 108]⟩ [.dat (.str x)] wd (.dat (.list (hAll its x))) wd := MethV.all rfl hw hi hx
theorem get_evL {i : Nat} {its : List (Str × Str)} {x : Str} {wd : Wd} (hw : wd[i]? = some its) (hi : okI its = true) (hx : okT x = true) : lf1.mv (.hdr i) ⟨#[103, 101, 116]⟩ [.dat (.str x)] wd (.dat (hGet its x)) wd := MethV.get rfl hw hi hx
theorem items_ev {i : Nat} {its : List (Str × Str)} {wd : Wd} (hw : wd[i]? = some its) (hi : okI its = true) : lf1.mv (.hdr i) ⟨#[105, 116, 101, 109, 115]⟩ [] wd (.dat (.list (its.map pairD))) wd := MethV.items rfl hw hi
theorem add_ev {i : Nat} {its : List (Str × Str)} {x y : Str} {wd : Wd} (hw : wd[i]? = some its) (hi : okI its = true) (hx : okT x = true) (hy : okT y = true) : lf1.mv (.hdr i) ⟨#[97, 100, 100, 95, 104, 101, 97, 100, 101, 114]⟩ [.dat (.str x), .dat (.str y)] wd (.dat .none) (wd.set i (its ++ [(x, y)])) := MethV.add rfl hw hi hx hy
theorem set_ev {i : Nat} {its : List (Str × Str)} {x y : Str} {wd : Wd} (hw : wd[i]? = some its) (hi : okI its = true) (hx : okT x = true) (hy : okT y = true) : lf1.si i x y wd (wd.set i (hSet its x y)) := SetV.mk hw hi hx hy
theorem sort_ev {l : List (Fin 4)} {wd : Wd} (hz : l.length ≤ 60) : lf1.cb ⟨#[115, 111, 114, 116, 101, 100]⟩ [.dat (.list (l.map eS))] wd (.dat (.list ((sortF l).map eS))) wd := by
  refine CallB.sorted rfl ?_
  have : (l.map eS).all isStrD = true := by
    rw [List.all_eq_true]
    intro y hy
    obtain ⟨z, _, rfl⟩ := List.mem_map.mp hy
    rfl
  unfold sortV
  rw [List.length_map, decide_eq_true hz, this, if_pos (by rfl), sortD_map (lt := ltStr) (g := eS) fun a b => pl_lt a b]

/-! the game as the law holds it -/
noncomputable def rowV (S : PS) : PV := .dat (.list ((rowOf S).map eS))
noncomputable def dctF (f : Fin 4 → Int) : PV := .dct [(⟨#[97]⟩, .dat (.int (f 0))), (⟨#[98]⟩, .dat (.int (f 1))), (⟨#[99]⟩, .dat (.int (f 2))), (⟨#[100]⟩, .dat (.int (f 3)))]
theorem dctF_at {f : Fin 4 → Int} (k : Fin 4) : subV (dctF f) (.dat (.str (pl k))) = some (.dat (.int (f k))) := by
  match k with
  | 0 => rfl
  | 1 => rfl
  | 2 => rfl
  | 3 => rfl
noncomputable def gameV (G : Gm) : PV := .dct [(nFaults, .dat (.list [])), (nArcs, .hdr 0), (nBoard, .hdr 1), (nOwner, dctF fun k => bI (G.own k)), (nNumber, dctF fun k => ((G.num k).val : Int))]
structure ArcsOk (G : Gm) (its : List (Str × Str)) : Prop where
  ok : okI its = true
  all : ∀ k, hAll its (pu k) = [eS (G.way k false), eS (G.way k true)]
/-- the ways of a place within S, in order -/
noncomputable def waysF (G : Gm) (S : PS) (k : Fin 4) : List (Fin 4) := (sortF [G.way k false, G.way k true]).filter S
theorem waysF_mem {G : Gm} {S : PS} {k j : Fin 4} : j ∈ waysF G S k ↔ S j = true ∧ (j = G.way k false ∨ j = G.way k true) := by
  unfold waysF
  rw [List.mem_filter, sortF_mem]
  simp [and_comm]
theorem waysF_up {G : Gm} {S : PS} {k : Fin 4} : Up (waysF G S k) := List.Pairwise.filter _ (sortF_up _)
theorem waysF_len {G : Gm} {S : PS} {k : Fin 4} : (waysF G S k).length ≤ 2 := Nat.le_trans (List.length_filter_le _ _) (by rw [sortF_len]; exact Nat.le_refl _)
theorem cnd_eq {G : Gm} {S A : PS} {p : Bool} {k : Fin 4} : cnd G S p A k = ((lkF (rowOf A) [] (waysF G S k) == []) || ((G.own k == p) && (decide ((lkF (waysF G S k) [] (rowOf A)).length < (rowOf A).length) && true))) := by
  unfold cnd
  congr 1
  · rw [Bool.eq_iff_iff, beq_iff_eq]
    constructor
    · intro h
      refine lkF_none fun x hx => ?_
      obtain ⟨h1, h2⟩ := waysF_mem.mp hx
      rw [mem_row]
      rcases h2 with rfl | rfl <;> simp_all
    · intro h
      have : ∀ x ∈ waysF G S k, A x = true := fun x hx => mem_row.mp ((lkF_nil h x hx).resolve_right (List.not_mem_nil))
      have h0 := this (G.way k false)
      have h1 := this (G.way k true)
      rw [waysF_mem] at h0 h1
      cases e0 : S (G.way k false) <;> cases e1 : S (G.way k true) <;> simp_all
  · congr 1
    rw [Bool.and_true, Bool.eq_iff_iff, decide_eq_true_eq, lkF_len]
    constructor
    · intro h
      rw [Bool.or_eq_true, Bool.and_eq_true, Bool.and_eq_true] at h
      rcases h with h | h
      · exact ⟨_, waysF_mem.mpr ⟨h.1, .inl rfl⟩, h.2⟩
      · exact ⟨_, waysF_mem.mpr ⟨h.1, .inr rfl⟩, h.2⟩
    · rintro ⟨x, hx, hA⟩
      obtain ⟨h1, rfl | rfl⟩ := waysF_mem.mp hx
      · rw [h1, hA]; rfl
      · rw [h1, hA]; simp
theorem o_seq {n : Nat} {sc : Scope} {b : List Stmt} {st : Stmt} {vs : Vars} {wd : Wd} {P : Fl → Vars → Wd → Prop} {I : Vars → Wd → Prop} (h1 : Outs (n + 1) sc [st] vs wd fun fl vs' wd' => fl = .next ∧ I vs' wd') (h2 : ∀ vs' wd', I vs' wd' → Outs (n + 1) sc b vs' wd' P) : Outs (n + 1) sc (st :: b) vs wd P := by
  obtain ⟨fl, vs', wd', h3, rfl, h4⟩ := h1
  cases h3 with
  | next q q2 =>
    cases q2
    exact o_next q (h2 _ _ h4)
theorem add_row {A : PS} {k : Fin 4} : binopV .Add (rowV A) (.dat (.list [eS k])) = some (.dat (.list ((rowOf A ++ [k]).map eS))) := by
  have sm : small = 1000 := rfl
  have h1 : ((rowOf A).map eS).length ≤ small := by rw [List.length_map]; have := row_len (S := A); omega
  have h2 : [eS k].length ≤ small := by rw [List.length_singleton]; omega
  rw [List.map_append]
  show (if (decide (((rowOf A).map eS).length ≤ small) && decide ([eS k].length ≤ small)) = true then _ else _) = _
  rw [decide_eq_true h1, decide_eq_true h2]; rfl
theorem eqq_int {a b : Int} : cmpV .Eq (.dat (.int a)) (.dat (.int b)) = some (a == b) := by
  show eqD (.int a) (.int b) = _
  unfold eqD
  rw [shp_int.ok (by decide), shp_int.ok (by decide), if_pos (by rfl), PyData.eqv]
theorem lt_nat {a b : Nat} : cmpV .Lt (.dat (.int (a : Int))) (.dat (.int (b : Int))) = some (decide (a < b)) := by
  show some (decide ((a : Int) < b)) = _
  simp only [Int.ofNat_lt]
theorem eqq_nil : cmpV .Eq (.dat (.list [])) (.dat (.list [])) = some true := eqq_refl (shp_list (k := 0) (xs := []) fun _ h => no_mem h) (by decide)

structure PullV (G : Gm) (S A B : PS) (p : Bool) (vs : Vars) : Prop where
  game : vs.lookup nGame = some (gameV G)
  places : vs.lookup nPlaces = some (rowV S)
  inside : vs.lookup nInside = some (rowV A)
  player : vs.lookup nPlayer = some (.dat (.int (bI p)))
  before : vs.lookup nBefore = some (rowV B)
theorem pull_call {n : Nat} {G : Gm} {its : List (Str × Str)} {wd : Wd} {S X : PS} {p : Bool} (HA : ArcsOk G its) (hw : wd[0]? = some its) (hl : Live G S) (hX : ∀ k, X k = true → S k = true) (hne : ∃ k, X k = true) :
    ∃ A, CallF lf1 (evN lf1 (n + 18)) fN_pull [gameV G, rowV S, rowV X, .dat (.int (bI p))] wd (rowV A) wd ∧ PullI G S X p A ∧ Fixed G S p A := by
  have sm : small = 1000 := rfl
  obtain ⟨v, wd', h, rfl, A, rfl, h1, h2⟩ := o_callE (n := n + 18) (args := [gameV G, rowV S, rowV X, .dat (.int (bI p))]) (wd := wd) (R := fun v wd' => wd' = wd ∧ ∃ A, v = rowV A ∧ PullI G S X p A ∧ Fixed G S p A) fO_pull (by rfl) (by
    generalize hb : (fnD fN_pull) = d
    conv at hb => 
      lhs
      reduce
    subst hb
    refine o_next (s_name rfl (r_list r_nil (Nat.zero_le _) rfl) rfl) ?_
    refine o_while (m := 4) (I := fun m vs wd' => wd' = wd ∧ ∃ A B, PullV G S A B p vs ∧ PullI G S X p A ∧ (A = B → Fixed G S p A) ∧ (A ≠ B → 5 ≤ (rowOf A).length + m)) (J := fun vs wd' => wd' = wd ∧ ∃ A, vs.lookup nInside = some (rowV A) ∧ PullI G S X p A ∧ Fixed G S p A) (by decide) ⟨rfl, X, fun _ => false, ⟨rfl, rfl, rfl, rfl, rfl⟩, pullI_start hX, fun e => ?_, fun _ => ?_⟩ (fun m vs wd' h => ?_) (fun vs wd' h => ?_)
    · obtain ⟨k, hk⟩ := hne
      rw [e] at hk; cases hk
    · obtain ⟨k, hk⟩ := hne
      have : 0 < (rowOf X).length := List.length_pos_of_mem (mem_row.mpr hk)
      omega
    · obtain ⟨rfl, A, B, V, P, hF, hm⟩ := h
      have hz : ∀ {S : PS}, (rowOf S).length ≤ 60 := fun {S} => by have := row_len (S := S); omega
      by_cases e : A = B
      · refine .inl ⟨r_tb (r_and (r_tcmp (r_name rfl V.before) (r_name rfl V.inside) rfl enc_S.neL) fun _ => r_and (r_tcmp (r_sub rfl (r_name rfl V.game) (r_const rfl) rfl) (r_list r_nil (Nat.zero_le _) rfl) rfl eqq_nil) fun _ => r_and_nil) (by rw [e]; simp), rfl, A, V.inside, P, hF e⟩
      refine .inr ⟨r_tb (r_and (r_tcmp (r_name rfl V.before) (r_name rfl V.inside) rfl enc_S.neL) fun _ => r_and (r_tcmp (r_sub rfl (r_name rfl V.game) (r_const rfl) rfl) (r_list r_nil (Nat.zero_le _) rfl) rfl eqq_nil) fun _ => r_and_nil) ?_, ?_⟩
      · have : (rowOf B == rowOf A) = false := beq_eq_false_iff_ne.mpr fun h => e (row_inj h).symm
        rw [this]; rfl
      have hm := hm e
      obtain ⟨m, rfl⟩ : ∃ m', m = m' + 1 := ⟨m - 1, by have := row_len (S := A); omega⟩
      refine ⟨m, rfl, ?_⟩
      refine o_next (s_name rfl (r_name rfl V.inside) rfl) ?_
      refine o_for (α := Fin 4) (enc := eS) (ys := rowOf (dif S A)) (I := fun pre vs wd'' => wd'' = wd' ∧ ∃ A', PullV G S A' A p vs ∧ PullI G S X p A' ∧ (∀ k, A k = true → A' k = true) ∧ (∀ k, A' k = true → A k = true ∨ k ∈ pre) ∧ (A' = A → ∀ k ∈ pre, cnd G S p A k = false)) 
        (i_of rfl (r_sub rfl (r_call rfl (r_cons rfl (r_name rfl V.game) (r_two rfl rfl (r_name rfl V.places) (r_name rfl rfl))) (told_call enc_S hz hz row_up row_up rfl)) (r_const rfl) rfl) rfl (by rw [List.length_map, lkF_dif]; have := row_len (S := dif S A); omega)) (by rw [lkF_dif]) ⟨rfl, A, ⟨V.game, V.places, V.inside, V.player, rfl⟩, P, fun _ h => h, fun _ h => .inl h, fun _ k h => no_mem h⟩ (fun pre y post vs wd'' hy h => ?_) (fun vs wd'' h => ?_)
      rotate_left
      · obtain ⟨rfl, A', V', P', s1, s2, s3⟩ := h
        refine o_nil ⟨rfl, rfl, A', A, V', P', fun e => ?_, fun e => ?_⟩
        · intro k hS hA
          rw [e] at hA ⊢
          exact s3 e k (mem_row.mpr (dif_iff.mpr ⟨hS, hA⟩))
        · obtain ⟨j, hj1, hj2⟩ : ∃ j, A' j = true ∧ A j = false := by
            refine Classical.byContradiction fun hn => e (funext fun k => ?_)
            cases q : A k with
            | true => exact s1 k q
            | false =>
              cases q' : A' k with
              | false => rfl
              | true => exact absurd ⟨k, q', q⟩ hn
          have := row_sub_lt s1 hj1 hj2
          omega
      obtain ⟨rfl, A', V', P', s1, s2, s3⟩ := h
      have hyd : dif S A y = true := mem_row.mp (by rw [hy]; simp)
      have hyp : y ∉ pre := by
        have := row_nodup (S := dif S A)
        rw [hy, List.nodup_append] at this
        exact fun hm => this.2.2 y hm y (.head _) rfl
      obtain ⟨hyS, hyA⟩ := dif_iff.mp hyd
      have hyA' : A' y = false := by
        cases q : A' y with
        | false => rfl
        | true =>
          rcases s2 y q with h | h
          · rw [hyA] at h; cases h
          · exact absurd h hyp
      refine ⟨_, .name rfl rfl, ?_⟩
      refine o_next (s_lc (r_lc rfl (i_of rfl (r_call rfl (r_one rfl (r_meth rfl (r_sub rfl (r_name rfl V'.game) (r_const rfl) rfl) (r_one rfl (r_meth rfl (r_name rfl rfl) r_nil upper_ev)) (all_ev hw HA.ok (pu_ok y)))) (k_blt (by rw [HA.all]; exact sort_ev (l := [G.way y false, G.way y true]) (show 2 ≤ 60 from by decide)))) rfl (by rw [List.length_map, sortF_len]; exact show 2 ≤ small from by decide))
        (c_one (α := Fin 4) (ys := sortF [G.way y false, G.way y true]) (enc := eS) (f := S) (g := eS) (fun z hz => ⟨_, b_name rfl, t_oneE (r_tcmp (r_name rfl n_head) (r_name rfl (n_tail rfl (n_seen rfl V'.places))) rfl (enc_S.inV (by have := row_len (S := S); omega))) row_has, fun _ => r_name rfl n_head⟩) (by rw [sortF_len]; exact show 2 ≤ small from by decide))) rfl) ?_
      have hwl : (waysF G S y).length ≤ 60 := by have := waysF_len (G := G) (S := S) (k := y); omega
      refine o_seq (I := fun vs' w2 => w2 = wd'' ∧ PullV G S A' A p vs' ∧ vs'.lookup nPlace = some (.dat (eS y)) ∧ vs'.lookup nOutside = some (.dat (.list ((lkF (rowOf A') [] (waysF G S y)).map eS))) ∧ vs'.lookup nBeyond = some (.dat (.list ((lkF (waysF G S y) [] (rowOf A')).map eS)))) ?_ fun vs' wd'' h => ?_
      · cases p with
        | false =>
          refine o_ifT (r_tcmp (r_name rfl V'.player) (r_const rfl) rfl eqq_int) ?_
          refine o_next (s_tup rfl (r_call rfl (r_cons rfl (r_name rfl V'.game) (r_two rfl rfl (r_name rfl rfl) (r_name rfl V'.inside))) (told_call enc_S hwl hz waysF_up row_up rfl)) (.pair rfl rfl)) (o_nil (o_nil ?_))
          exact ⟨rfl, rfl, ⟨V'.game, V'.places, V'.inside, V'.player, V'.before⟩, rfl, rfl, rfl⟩
        | true =>
          refine o_ifF (r_tcmp (r_name rfl V'.player) (r_const rfl) rfl eqq_int) ?_
          refine o_next (s_tup rfl (r_call rfl (r_cons rfl (r_name rfl V'.game) (r_two rfl rfl (r_name rfl V'.inside) (r_name rfl rfl))) (told_call enc_S hz hwl row_up waysF_up rfl)) (.pair rfl rfl)) (o_nil (o_nil ?_))
          exact ⟨rfl, rfl, ⟨V'.game, V'.places, V'.inside, V'.player, V'.before⟩, rfl, rfl, rfl⟩
      obtain ⟨rfl, V₂, q1, q2, q3⟩ := h
      have hT : cnd G S p A' y = ((lkF (rowOf A') [] (waysF G S y) == []) || (((bI (G.own y) == bI p) && (decide ((lkF (waysF G S y) [] (rowOf A')).length < (rowOf A').length) && true)) || false)) := by
        rw [cnd_eq, bI_eq, Bool.or_false]
      have hb : (lkF (waysF G S y) [] (rowOf A')).length ≤ small := by
        rw [lkF_row]; have := row_len (S := fun k => A' k && !(waysF G S y).contains k); omega
      have hb' : (rowOf A').length ≤ small := by have := row_len (S := A'); omega
      cases hc : cnd G S p A' y with
      | true =>
        refine o_ifT (r_tb (r_or (r_tcmp (r_name rfl q2) (r_list r_nil (Nat.zero_le _) rfl) rfl (enc_S.eqqL (b := []))) fun _ => r_or (r_tb (r_and (r_tcmp (r_sub rfl (r_sub rfl (r_name rfl V₂.game) (r_const rfl) rfl) (r_name rfl q1) (dctF_at y)) (r_name rfl V₂.player) rfl eqq_int) fun _ => r_and (r_tcmp (r_call rfl (r_one rfl (r_name rfl q3)) (k_blt (len_ev hb (List.length_map ..)))) (r_call rfl (r_one rfl (r_name rfl V₂.inside)) (k_blt (len_ev hb' (List.length_map ..)))) rfl lt_nat) fun _ => r_and_nil) rfl) fun _ => r_or_nil) (hT.symm.trans hc)) ?_
        refine o_next (s_name rfl (r_call rfl (r_one rfl (r_bin (r_name rfl V₂.inside) (r_list (r_one rfl (r_name rfl q1)) (show 1 ≤ small from by decide) rfl) add_row)) (k_blt (sort_ev (by rw [List.length_append, List.length_singleton]; have := row_len (S := A'); omega)))) rfl) (o_nil (o_nil ?_))
        rw [sort_add hyA']
        refine ⟨rfl, rfl, addP A' y, ⟨V₂.game, V₂.places, rfl, V₂.player, V₂.before⟩, pullI_add hl P' hyA' hyS hc, fun k hk => addP_iff.mpr (.inl (s1 k hk)), fun k hk => ?_, fun e => ?_⟩
        · rcases addP_iff.mp hk with hk | rfl
          · exact (s2 k hk).imp id fun h => List.mem_append_left _ h
          · exact .inr (by simp)
        · have : addP A' y y = true := addP_iff.mpr (.inr rfl)
          rw [e, hyA] at this; cases this
      | false =>
        refine o_ifF (r_tb (r_or (r_tcmp (r_name rfl q2) (r_list r_nil (Nat.zero_le _) rfl) rfl (enc_S.eqqL (b := []))) fun _ => r_or (r_tb (r_and (r_tcmp (r_sub rfl (r_sub rfl (r_name rfl V₂.game) (r_const rfl) rfl) (r_name rfl q1) (dctF_at y)) (r_name rfl V₂.player) rfl eqq_int) fun _ => r_and (r_tcmp (r_call rfl (r_one rfl (r_name rfl q3)) (k_blt (len_ev hb (List.length_map ..)))) (r_call rfl (r_one rfl (r_name rfl V₂.inside)) (k_blt (len_ev hb' (List.length_map ..)))) rfl lt_nat) fun _ => r_and_nil) rfl) fun _ => r_or_nil) (hT.symm.trans hc)) (o_nil (o_nil ?_))
        refine ⟨rfl, rfl, A', V₂, P', s1, fun k hk => (s2 k hk).imp id fun h => List.mem_append_left _ h, fun e k hk => ?_⟩
        rcases List.mem_append.mp hk with hk | hk
        · exact s3 e k hk
        · rw [List.mem_singleton] at hk
          subst hk
          rw [← e]; exact hc
    · obtain ⟨rfl, A, hI, P, F⟩ := h
      exact o_ret (s_ret (r_name rfl hI)) ⟨rfl, A, rfl, P, F⟩)
  exact ⟨A, h, h1, h2⟩
/-! the board of verdicts -/
noncomputable abbrev Bd := List (Fin 4 × Bool)
noncomputable def nmB (k : Fin 4) (v : Bool) : Str := if v then pu k else pl k
noncomputable def encB (b : Bd) : List (Str × Str) := b.map fun p => (nmB p.1 p.2, vS p.2)
noncomputable def setB (b : Bd) (k : Fin 4) (v : Bool) : Bd := b.filter (fun p => p.1 != k) ++ [(k, v)]
noncomputable def getB (b : Bd) (k : Fin 4) : Option Bool := (b.find? fun p => p.1 == k).map (·.2)
noncomputable def BdOk (b : Bd) : Prop := (b.map (·.1)).Nodup
theorem nmB_ok : ∀ k v, okT (nmB k v) = true := by decide +kernel
theorem low_nmB : ∀ k v, lowT (nmB k v) = pl k := by decide +kernel
theorem low_key (a b : Fin 4) (u v : Bool) : (lowT (nmB a u) == lowT (nmB b v)) = (a == b) := by rw [low_nmB, low_nmB, pl_eq]
theorem nodup_len {l : List (Fin 4)} (h : l.Nodup) : l.length ≤ 4 := by
  have : l.Perm (rowOf fun k => l.contains k) := (List.perm_ext_iff_of_nodup h row_nodup).mpr fun x => by rw [mem_row]; exact List.contains_iff_mem.symm
  rw [this.length_eq]; exact row_len
theorem BdOk.len {b : Bd} (h : BdOk b) : b.length ≤ 4 := by have := nodup_len h; rwa [List.length_map] at this
theorem BdOk.ok {b : Bd} (h : BdOk b) : okI (encB b) = true := by
  unfold okI encB
  rw [List.length_map, Bool.and_eq_true, decide_eq_true_eq, List.all_eq_true]
  refine ⟨by have := h.len; omega, fun p hp => ?_⟩
  obtain ⟨q, _, rfl⟩ := List.mem_map.mp hp
  show (okT (nmB q.1 q.2) && okT (vS q.2)) = true
  rw [nmB_ok, vS_ok]; rfl
theorem BdOk.set {b : Bd} (h : BdOk b) (k : Fin 4) (v : Bool) : BdOk (setB b k v) := by
  unfold BdOk setB
  rw [List.map_append, List.nodup_append]
  refine ⟨List.Nodup.sublist (List.Sublist.map _ List.filter_sublist) h, by simp, fun x hx y hy e => ?_⟩
  obtain ⟨q, hq, rfl⟩ := List.mem_map.mp hx
  have hq := (List.mem_filter.mp hq).2
  rw [List.map_cons, List.map_nil, List.mem_singleton] at hy
  subst hy
  rw [e] at hq
  simp at hq
theorem enc_set {b : Bd} {k : Fin 4} {v : Bool} : hSet (encB b) (nmB k v) (vS v) = encB (setB b k v) := by
  unfold hSet encB setB
  rw [List.map_append, List.filter_map]
  congr 2
  congr 1
  funext p
  show (lowT (nmB p.1 p.2) != lowT (nmB k v)) = _
  unfold bne
  rw [low_key]
theorem enc_get {b : Bd} {k : Fin 4} : hGet (encB b) (pu k) = match getB b k with | some v => .str (vS v) | none => .none := by
  unfold hGet getB encB
  rw [List.find?_map]
  have : ((fun p : Str × Str => lowT p.1 == lowT (pu k)) ∘ fun p : Fin 4 × Bool => (nmB p.1 p.2, vS p.2)) = fun p : Fin 4 × Bool => p.1 == k := by
    funext p
    exact low_key p.1 k p.2 true
  rw [this]
  cases b.find? fun p => p.1 == k <;> rfl
theorem get_set {b : Bd} {k j : Fin 4} {v : Bool} : getB (setB b k v) j = if j = k then some v else getB b j := by
  unfold getB setB
  rw [List.find?_append, List.find?_filter]
  by_cases h : j = k
  · subst h
    rw [if_pos rfl]
    have : b.find? (fun p => decide ((p.1 != j) = true ∧ (p.1 == j) = true)) = none := by
      rw [List.find?_eq_none]
      intro p _
      cases q : p.1 == j <;> simp [bne, q]
    rw [this]
    simp
  · rw [if_neg h]
    have : (fun p : Fin 4 × Bool => decide ((p.1 != k) = true ∧ (p.1 == j) = true)) = fun p => p.1 == j := by
      funext p
      cases q : p.1 == j with
      | true =>
        have := eq_of_beq q
        exact decide_eq_true ⟨by rw [bne_iff_ne, this]; exact h, rfl⟩
      | false => exact decide_eq_false fun h => by cases h.2
    rw [this]
    have : ([(k, v)] : Bd).find? (fun p => p.1 == j) = none := by
      rw [List.find?_cons]
      have : (k == j) = false := beq_eq_false_iff_ne.mpr fun e => h e.symm
      simp only [this]; rfl
    rw [this, Option.or_none]
noncomputable def writeB (b : Bd) (l : List (Fin 4)) (v : Bool) : Bd := l.foldl (fun b k => setB b k v) b
theorem writeB_ok {l : List (Fin 4)} {v : Bool} : ∀ {b : Bd}, BdOk b → BdOk (writeB b l v) := by
  induction l with
  | nil => exact fun h => h
  | cons k r ih => exact fun h => ih (h.set k v)
theorem get_write {l : List (Fin 4)} {v : Bool} {j : Fin 4} : ∀ {b : Bd}, getB (writeB b l v) j = if j ∈ l then some v else getB b j := by
  induction l with
  | nil => intro b; rfl
  | cons k r ih =>
    intro b
    show getB (writeB (setB b k v) r v) j = _
    rw [ih, get_set]
    by_cases h1 : j ∈ r
    · rw [if_pos h1, if_pos (.tail _ h1)]
    · rw [if_neg h1]
      by_cases h2 : j = k
      · subst h2; rw [if_pos rfl, if_pos (.head _)]
      · rw [if_neg h2, if_neg fun h => (List.mem_cons.mp h).elim h2 h1]

theorem write_call {n : Nat} {its : List (Str × Str)} {b : Bd} {l : List (Fin 4)} {v : Bool} (hb : BdOk b) (hz : l.length ≤ small) :
    CallF lf1 (evN lf1 (n + 8)) fN_write [.hdr 1, .dat (.list (l.map eS)), .dat (.str (vS v))] [its, encB b] (.dat .none) [its, encB (writeB b l v)] := by
  refine o_call fO_write (by rfl) ?_
  generalize hb : (fnD fN_write) = d
  conv at hb => 
    lhs
    reduce
  subst hb
  refine o_for (α := Fin 4) (enc := eS) (ys := l) (I := fun pre vs wd => wd = [its, encB (writeB b pre v)] ∧ vs.lookup nBoard = some (.hdr 1) ∧ vs.lookup nVerdict = some (.dat (.str (vS v)))) (i_of rfl (r_name rfl rfl) rfl (by rw [List.length_map]; exact hz)) rfl ⟨rfl, rfl, rfl⟩ (fun pre y post vs wd hy h => ?_) fun vs wd h => ?_
  · obtain ⟨rfl, h1, h2⟩ := h
    refine ⟨_, .name rfl rfl, ?_⟩
    have e : writeB b (pre ++ [y]) v = setB (writeB b pre v) y v := by unfold writeB; rw [List.foldl_append]; rfl
    have hok : BdOk (writeB b pre v) := writeB_ok ‹_›
    cases v with
    | false =>
      refine o_next (s_sub (z := nmB y false) (r_name rfl (n_tail rfl h2)) (r_name rfl (n_tail rfl h1)) (r_ifF (r_tcmp (r_name rfl (n_tail rfl h2)) (r_const rfl) rfl (cmp_str (vS_ok false) (vS_ok true))) (r_name rfl n_head)) (set_ev rfl hok.ok (nmB_ok _ _) (vS_ok _))) (o_nil ?_)
      rw [enc_set, e]
      exact ⟨rfl, rfl, h1, h2⟩
    | true =>
      refine o_next (s_sub (z := nmB y true) (r_name rfl (n_tail rfl h2)) (r_name rfl (n_tail rfl h1)) (r_ifT (r_tcmp (r_name rfl (n_tail rfl h2)) (r_const rfl) rfl (cmp_str (vS_ok true) (vS_ok true))) (r_meth rfl (r_name rfl n_head) r_nil upper_ev)) (set_ev rfl hok.ok (nmB_ok _ _) (vS_ok _))) (o_nil ?_)
      rw [enc_set, e]
      exact ⟨rfl, rfl, h1, h2⟩
  · obtain ⟨rfl, h1, h2⟩ := h
    exact o_nil ⟨rfl, rfl⟩
theorem mod2 (t : Nat) : Int.fmod (t : Int) 2 = bI (t % 2 == 1) := by
  rw [Int.fmod_eq_emod_of_nonneg _ (by decide)]
  rcases Nat.mod_two_eq_zero_or_one t with h | h
  · rw [h]
    show _ = (0 : Int)
    omega
  · rw [h]
    show _ = (1 : Int)
    omega
theorem mod2V (t : Nat) : binopV .Mod (.dat (.int (t : Int))) (.dat (.int 2)) = some (.dat (.int (bI (t % 2 == 1)))) := by
  show some (PV.dat (.int (Int.fmod (t : Int) 2))) = _
  rw [mod2]
theorem sub1V (q : Bool) : binopV .Sub (.dat (.int 1)) (.dat (.int (bI q))) = some (.dat (.int (bI (!q)))) := by cases q <;> rfl
theorem at01 (q : Bool) : subV (.dat (.str ⟨#[48, 49]⟩)) (.dat (.int (bI q))) = some (.dat (.str (vS q))) := by cases q <;> rfl
theorem at10 (q : Bool) : subV (.dat (.str ⟨#[49, 48]⟩)) (.dat (.int (bI q))) = some (.dat (.str (vS (!q)))) := by cases q <;> rfl
theorem intsD_map {α : Type} (f : α → Int) : ∀ l : List α, intsD (l.map fun k => .int (f k)) = some (l.map f)
  | [] => rfl
  | x :: r => by
    rw [List.map_cons, intsD, intsD_map f r]; rfl
theorem fold_cast : ∀ (l : List Nat) (a : Nat), (l.map fun x : Nat => (x : Int)).foldl (fun m x => if x > m then x else m) (a : Int) = ((l.foldl (fun m x => if x > m then x else m) a : Nat) : Int)
  | [], _ => rfl
  | x :: r, a => by
    rw [List.map_cons, List.foldl_cons, List.foldl_cons]
    by_cases h : x > a
    · rw [if_pos h, if_pos (by omega), fold_cast r x]
    · rw [if_neg h, if_neg (by omega), fold_cast r a]
theorem max_ev {l : List (Fin 4)} {f : Fin 4 → Nat} (h : l ≠ []) : ∃ t : Nat, (∀ k ∈ l, f k ≤ t) ∧ (∃ k ∈ l, f k = t) ∧ ∀ wd, lf1.cb ⟨#[109, 97, 120]⟩ [.dat (.list (l.map fun k => .int (f k : Int)))] wd (.dat (.int (t : Int))) wd := by
  cases l with
  | nil => exact absurd rfl h
  | cons x r =>
    obtain ⟨h1, h2, h3⟩ := mxL_ge (l := r.map f) (m := f x)
    refine ⟨(r.map f).foldl (fun m x => if x > m then x else m) (f x), fun k hk => ?_, ?_, fun wd => ?_⟩
    · rcases List.mem_cons.mp hk with rfl | hk
      · exact h1
      · exact h2 _ (List.mem_map.mpr ⟨k, hk, rfl⟩)
    · rcases h3 with h3 | h3
      · exact ⟨x, .head _, h3.symm⟩
      · obtain ⟨k, hk, e⟩ := List.mem_map.mp h3
        exact ⟨k, .tail _ hk, e⟩
    · refine CallB.max1 rfl (intsD_map (fun k => (f k : Int)) _) ?_
      rw [List.map_cons, maxI]
      have := fold_cast (r.map f) (f x)
      rw [List.map_map] at this
      exact congrArg some this
theorem s_callE {n : Nat} {sc : Scope} {f : Str} {p q q' : Pos} {args : List Expr} {vs : Vars} {wd wd₁ : Wd} {v : PV} (h1 : (evN lf1 n).ev sc (.Call (.Name f p) args [] q) vs wd v wd₁) : ExStep lf1 (evN lf1 n) sc (.Expr (.Call (.Name f p) args [] q) q') vs wd .next vs wd₁ := .expr rfl h1
theorem told_rows {n : Nat} {G : Gm} {S T : PS} {wd : Wd} : CallF lf1 (evN lf1 (n + 13)) fN_told [gameV G, rowV S, rowV T] wd (.dat (.tuple [.list ((rowOf (dif S T)).map eS), .list ((rowOf (dif T S)).map eS)])) wd := by
  have h : ∀ {S : PS}, (rowOf S).length ≤ 60 := fun {S} => by have := row_len (S := S); omega
  have := told_call (n := n) enc_S (a := rowOf S) (c := rowOf T) h h row_up row_up (gv := gameV G) rfl (wd := wd)
  unfold toldD at this
  rw [lkF_dif, lkF_dif] at this
  exact this

/-- what a judging leaves on the board -/
structure JOk (G : Gm) (S : PS) (b b' : Bd) : Prop where
  ok : BdOk b'
  off : ∀ k, S k = false → getB b' k = getB b k
  on : ∃ v : Fin 4 → Bool, (∀ k, S k = true → getB b' k = some (v k)) ∧ ∀ p, Win G S p fun k => S k && (v k == p)
theorem judge_none {G : Gm} {its : List (Str × Str)} {S : PS} {N : Nat} {b : Bd} (he : rowOf S = []) (hN : 18 ≤ N) (hb : BdOk b) : ∃ b', CallF lf1 (evN lf1 N) fN_judge [gameV G, rowV S] [its, encB b] (.dat .none) [its, encB b'] ∧ JOk G S b b' := by
  obtain ⟨q, rfl⟩ : ∃ q, N = q + 18 := ⟨N - 18, by omega⟩
  have h0 := row_nil.mp he
  refine ⟨b, o_call fO_judge (by rfl) ?_, hb, fun _ _ => rfl, fun _ => false, (fun k hk => by rw [h0 k] at hk; cases hk), fun p => ?_⟩
  · generalize hb : (fnD fN_judge) = d
    conv at hb => 
      lhs
      reduce
    subst hb
    refine o_ifF (r_tb (r_and (r_tcmp (r_name rfl rfl) (r_list r_nil (Nat.zero_le _) rfl) rfl (enc_S.neL (b := []))) fun _ => r_and (r_tcmp (r_sub rfl (r_name rfl rfl) (r_const rfl) rfl) (r_list r_nil (Nat.zero_le _) rfl) rfl eqq_nil) fun _ => r_and_nil) ?_) (o_nil (o_nil ⟨rfl, rfl⟩))
    rw [he]; rfl
  · have : (fun k => S k && (false == p)) = fun _ => false := funext fun k => by rw [h0 k]; rfl
    rw [this]
    exact win_none
theorem judge_call {G : Gm} {its : List (Str × Str)} (HA : ArcsOk G its) : ∀ (m : Nat) (S : PS) (N : Nat) (b : Bd), (rowOf S).length ≤ m → 4 * m + 18 ≤ N → Live G S → BdOk b →
    ∃ b', CallF lf1 (evN lf1 N) fN_judge [gameV G, rowV S] [its, encB b] (.dat .none) [its, encB b'] ∧ JOk G S b b' := by
  have sm : small = 1000 := rfl
  have hz : ∀ {S : PS}, (rowOf S).length ≤ small := fun {S} => by have := row_len (S := S); omega
  have hzm : ∀ {S : PS}, ((rowOf S).map eS).length ≤ small := fun {S} => by rw [List.length_map]; exact hz
  intro m
  induction m with
  | zero => exact fun S N b hm hN _ hb => judge_none (List.length_eq_zero_iff.mp (Nat.le_zero.mp hm)) (by omega) hb
  | succ m ih =>
    intro S N b hm hN hl hb
    by_cases he : rowOf S = []
    · exact judge_none he (by omega) hb
    obtain ⟨q, rfl⟩ : ∃ q, N = q + 22 := ⟨N - 22, by omega⟩
    obtain ⟨t, ht1, ⟨kt, hkt, ht2⟩, ht3⟩ := max_ev (f := fun k => (G.num k).val) he
    have hX : ∀ k, (S k && decide ((G.num k).val = t)) = true ↔ S k = true ∧ (G.num k).val = t := fun k => by rw [Bool.and_eq_true, decide_eq_true_eq]
    obtain ⟨Nr, hNr, PN, FN⟩ := pull_call (n := q + 1) (wd := [its, encB b]) (S := S) (X := fun k => S k && decide ((G.num k).val = t)) (p := t % 2 == 1) HA rfl hl (fun k hk => ((hX k).mp hk).1) ⟨kt, (hX kt).mpr ⟨mem_row.mp hkt, ht2⟩⟩
    have hkN : Nr kt = true := PN.xa kt ((hX kt).mpr ⟨mem_row.mp hkt, ht2⟩)
    have hsm : (rowOf (dif S Nr)).length ≤ m := by
      have := row_sub_lt (A := dif S Nr) (B := S) (fun k hk => (dif_iff.mp hk).1) (mem_row.mp hkt) (j := kt) (by unfold dif; rw [hkN]; simp)
      omega
    obtain ⟨b1, hj1, ok1, off1, v1, on1, win1⟩ := ih (dif S Nr) (q + 19) b hsm (by omega) (live_dif FN) hb
    have R : ∃ b', CallF lf1 (evN lf1 (q + 22)) fN_judge [gameV G, rowV S] [its, encB b] (.dat .none) [its, encB b'] ∧ JOk G S b b' := by
      obtain ⟨v, wd', h, b', rfl, rfl, hJ⟩ := o_callE (n := q + 22) (args := [gameV G, rowV S]) (wd := [its, encB b]) (R := fun v wd' => ∃ b', v = .dat .none ∧ wd' = [its, encB b'] ∧ JOk G S b b') fO_judge (by rfl) (by
        generalize hb : (fnD fN_judge) = d
        conv at hb => 
          lhs
          reduce
        subst hb
        refine o_ifT (r_tb (r_and (r_tcmp (r_name rfl rfl) (r_list r_nil (Nat.zero_le _) rfl) rfl (enc_S.neL (b := []))) fun _ => r_and (r_tcmp (r_sub rfl (r_name rfl rfl) (r_const rfl) rfl) (r_list r_nil (Nat.zero_le _) rfl) rfl eqq_nil) fun _ => r_and_nil) ?_) ?_
        · rw [beq_eq_false_iff_ne.mpr he]; rfl
        refine o_next (s_name rfl (r_call rfl (r_one rfl (r_lc rfl (i_of rfl (r_name rfl rfl) rfl hzm) (c_one (α := Fin 4) (enc := eS) (ys := rowOf S) (f := fun _ => true) (g := fun k => .int ((G.num k).val : Int)) (fun k hk => ⟨_, b_name rfl, t_nil, fun _ => r_sub rfl (r_sub rfl (r_name rfl rfl) (r_const rfl) rfl) (r_name rfl rfl) (dctF_at k)⟩) hz))) (k_blt (by rw [List.filter_eq_self.mpr fun _ _ => rfl]; exact ht3 _))) rfl) ?_
        refine o_next (s_name rfl (r_call rfl (r_cons rfl (r_name rfl rfl) (r_cons rfl (r_name rfl rfl) (r_two rfl rfl (r_lc rfl (i_of rfl (r_name rfl rfl) rfl hzm) (c_one (α := Fin 4) (enc := eS) (ys := rowOf S) (f := fun k => decide ((G.num k).val = t)) (g := eS) (fun k hk => ⟨_, b_name rfl, t_oneE (r_tcmp (r_sub rfl (r_sub rfl (r_name rfl rfl) (r_const rfl) rfl) (r_name rfl rfl) (dctF_at k)) (r_name rfl rfl) rfl eqq_int) ?_, fun _ => r_name rfl rfl⟩) hz)) (r_bin (r_name rfl rfl) (r_const rfl) (mod2V t))))) (by rw [filter_row]; exact hNr)) rfl) ?_
        · rw [Bool.eq_iff_iff, beq_iff_eq, decide_eq_true_eq]; omega
        refine o_next (s_name rfl (r_sub rfl (r_call rfl (r_cons rfl (r_name rfl rfl) (r_two rfl rfl (r_name rfl rfl) (r_name rfl rfl))) told_rows) (r_const rfl) rfl) rfl) ?_
        refine o_next (s_callE (r_call rfl (r_two rfl rfl (r_name rfl rfl) (r_name rfl rfl)) hj1)) ?_
        refine o_next (s_lc (r_lc rfl (i_of rfl (r_name rfl rfl) rfl hzm) (c_one (α := Fin 4) (enc := eS) (ys := rowOf (dif S Nr)) (f := fun k => v1 k == !(t % 2 == 1)) (g := eS) (fun k hk => ⟨_, b_name rfl, t_oneE (r_tcmp (r_meth rfl (r_sub rfl (r_name rfl rfl) (r_const rfl) rfl) (r_one rfl (r_meth rfl (r_name rfl rfl) r_nil upper_ev)) (get_evL rfl ok1.ok (pu_ok k))) (r_sub rfl (r_const rfl) (r_bin (r_name rfl rfl) (r_const rfl) (mod2V t)) (at10 _)) rfl (by rw [enc_get, on1 k (mem_row.mp hk)]; exact cmp_str (vS_ok _) (vS_ok _))) (vS_eq _ _), fun _ => r_name rfl rfl⟩) hz)) rfl) ?_
        rw [filter_row]
        generalize hLo : (fun k => dif S Nr k && (v1 k == !(t % 2 == 1))) = Lo
        have LoI : ∀ k, Lo k = true ↔ dif S Nr k = true ∧ v1 k = !(t % 2 == 1) := fun k => by rw [← hLo, Bool.and_eq_true, beq_iff_eq]
        have winLo : Win G (dif S Nr) (!(t % 2 == 1)) Lo := by rw [← hLo]; exact win1 _
        by_cases hlo : rowOf Lo = []
        · refine o_ifT (r_tcmp (r_name rfl rfl) (r_list r_nil (Nat.zero_le _) rfl) rfl (by rw [hlo]; exact eqq_nil)) ?_
          refine o_next (s_callE (r_call rfl (r_cons rfl (r_sub rfl (r_name rfl rfl) (r_const rfl) rfl) (r_two rfl rfl (r_name rfl rfl) (r_sub rfl (r_const rfl) (r_bin (r_name rfl rfl) (r_const rfl) (mod2V t)) (at01 _)))) (write_call ok1 hz))) (o_nil (o_nil (o_nil ⟨_, rfl, rfl, ?_⟩)))
          refine ⟨writeB_ok ok1, fun k hk => ?_, fun _ => t % 2 == 1, fun k hk => ?_, fun p => ?_⟩
          · rw [get_write, if_neg fun h => by rw [mem_row.mp h] at hk; cases hk]
            exact off1 k (by unfold dif; rw [hk]; rfl)
          · rw [get_write, if_pos (mem_row.mpr hk)]
          · by_cases hp : p = (t % 2 == 1)
            · subst hp
              have : (fun k => S k && ((t % 2 == 1) == (t % 2 == 1))) = S := funext fun k => by rw [beq_self_eq_true, Bool.and_true]
              rw [this]
              refine win_all hl (fun k hk => ht1 k (mem_row.mpr hk)) rfl (fun k hk => (hX k).mp hk) PN FN ?_
              have e : (fun k => dif S Nr k && (v1 k == (t % 2 == 1))) = dif S Nr := funext fun k => by
                cases q : dif S Nr k with
                | false => rfl
                | true =>
                  have := row_nil.mp hlo k
                  rw [Bool.true_and, beq_iff_eq]
                  have h2 : ¬ v1 k = !(t % 2 == 1) := fun h => by rw [(LoI k).mpr ⟨q, h⟩] at this; cases this
                  cases q1 : v1 k <;> cases q2 : t % 2 == 1 <;> simp_all
              have := win1 (t % 2 == 1)
              rw [e] at this
              exact this
            · have : (fun k => S k && ((t % 2 == 1) == p)) = fun _ => false := funext fun k => by rw [show ((t % 2 == 1) == p) = false from beq_eq_false_iff_ne.mpr fun e => hp e.symm, Bool.and_false]
              rw [this]
              exact win_none
        · refine o_ifF (r_tcmp (r_name rfl rfl) (r_list r_nil (Nat.zero_le _) rfl) rfl (by rw [show cmpV .Eq (.dat (.list ((rowOf Lo).map eS))) (.dat (.list [])) = some (rowOf Lo == []) from enc_S.eqqL (b := []), beq_eq_false_iff_ne.mpr hlo])) ?_
          obtain ⟨kl, hkl⟩ : ∃ k, Lo k = true := by
            cases q : rowOf Lo with
            | nil => exact absurd q hlo
            | cons x r => exact ⟨x, mem_row.mp (by rw [q]; exact .head _)⟩
          have hLS : ∀ k, Lo k = true → S k = true := fun k hk => (dif_iff.mp ((LoI k).mp hk).1).1
          obtain ⟨Fr, hFr, PF, FF⟩ := pull_call (n := q) (wd := [its, encB b1]) (S := S) (X := Lo) (p := !(t % 2 == 1)) HA rfl hl hLS ⟨kl, hkl⟩
          have hkF : Fr kl = true := PF.xa kl hkl
          have hsm2 : (rowOf (dif S Fr)).length ≤ m := by
            have := row_sub_lt (A := dif S Fr) (B := S) (fun k hk => (dif_iff.mp hk).1) (hLS kl hkl) (j := kl) (by unfold dif; rw [hkF]; simp)
            omega
          obtain ⟨b3, hj3, ok3, off3, v3, on3, win3⟩ := ih (dif S Fr) (q + 18) (writeB b1 (rowOf Fr) (!(t % 2 == 1))) hsm2 (by omega) (live_dif FF) (writeB_ok ok1)
          refine o_next (s_name rfl (r_call rfl (r_cons rfl (r_name rfl rfl) (r_cons rfl (r_name rfl rfl) (r_two rfl rfl (r_name rfl rfl) (r_bin (r_const rfl) (r_bin (r_name rfl rfl) (r_const rfl) (mod2V t)) (sub1V _))))) hFr) rfl) ?_
          refine o_next (s_callE (r_call rfl (r_cons rfl (r_sub rfl (r_name rfl rfl) (r_const rfl) rfl) (r_two rfl rfl (r_name rfl rfl) (r_sub rfl (r_const rfl) (r_bin (r_name rfl rfl) (r_const rfl) (mod2V t)) (at10 _)))) (write_call ok1 hz))) ?_
          refine o_next (s_callE (r_call rfl (r_two rfl rfl (r_name rfl rfl) (r_sub rfl (r_call rfl (r_cons rfl (r_name rfl rfl) (r_two rfl rfl (r_name rfl rfl) (r_name rfl rfl))) told_rows) (r_const rfl) rfl)) hj3)) (o_nil (o_nil (o_nil ⟨_, rfl, rfl, ?_⟩)))
          refine ⟨ok3, fun k hk => ?_, fun k => if Fr k = true then !(t % 2 == 1) else v3 k, fun k hk => ?_, fun p => ?_⟩
          · rw [off3 k (by unfold dif; rw [hk]; rfl), get_write, if_neg fun h => by rw [PF.sub k (mem_row.mp h)] at hk; cases hk]
            exact off1 k (by unfold dif; rw [hk]; rfl)
          · show _ = some (if Fr k = true then !(t % 2 == 1) else v3 k)
            cases hF : Fr k with
            | true => rw [off3 k (by unfold dif; rw [hF]; simp), get_write, if_pos (mem_row.mpr hF), if_pos rfl]
            | false => rw [on3 k (dif_iff.mpr ⟨hk, hF⟩), if_neg (by decide)]
          · by_cases hp : p = !(t % 2 == 1)
            · subst hp
              have : (fun k => S k && ((if Fr k = true then !(t % 2 == 1) else v3 k) == !(t % 2 == 1))) = fun k => Fr k || (dif S Fr k && (v3 k == !(t % 2 == 1))) := funext fun k => by
                cases hF : Fr k with
                | true => rw [PF.sub k hF, if_pos rfl, beq_self_eq_true]; rfl
                | false => rw [if_neg (by decide), Bool.false_or]; unfold dif; rw [hF]; simp
              rw [this]
              refine win_far (N := Nr) (Lo := Lo) (by rw [Bool.not_not]; exact FN) (fun k hk => ((LoI k).mp hk).1) winLo PF FF (fun k hk => by rw [Bool.and_eq_true] at hk; exact hk.1) (win3 _)
            · have hp' : p = (t % 2 == 1) := by cases p <;> cases q : t % 2 == 1 <;> simp_all
              subst hp'
              have : (fun k => S k && ((if Fr k = true then !(t % 2 == 1) else v3 k) == (t % 2 == 1))) = fun k => dif S Fr k && (v3 k == (t % 2 == 1)) := funext fun k => by
                cases hF : Fr k with
                | true => rw [if_pos rfl]; unfold dif; rw [hF]; cases t % 2 == 1 <;> simp
                | false => rw [if_neg (by decide)]; unfold dif; rw [hF]; simp
              rw [this]
              exact win_near FF (fun k hk => by rw [Bool.and_eq_true] at hk; exact hk.1) (win3 _))
      exact ⟨b', h, hJ⟩
    exact R
section
variable {n : Nat} {sc : Scope} {vs : Vars} {wd : Wd}
/-- a comprehension of two clauses -/
theorem c_two {α β : Type} {enc : α → PyData} {enc₂ : β → PyData} {f : α → Bool} {zs : α → List β} {g : α → β → PyData} {t t₂ it it₂ elt : Expr} {ifs : List Expr} {ys : List α}
    (h : ∀ y ∈ ys, ∃ vs', BindF sc t (.dat (enc y)) vs vs' ∧ Tests (fun e wd => (evN lf1 n).tst sc e vs' wd) ifs wd (f y) wd ∧ (f y = true → ItersOf (evN lf1 n) sc vs' it₂ wd ((zs y).map enc₂) wd ∧ ∀ z ∈ zs y, ∃ vs'', BindF sc t₂ (.dat (enc₂ z)) vs' vs'' ∧ (evN lf1 n).ev sc elt vs'' wd (.dat (g y z)) wd))
    (hz : ((ys.filter f).flatMap fun y => (zs y).map (g y)).length ≤ small) :
    CompOf (evN lf1 n) sc elt [⟨t, it, ifs, 0⟩, ⟨t₂, it₂, [], 0⟩] (ys.map enc) vs wd ((ys.filter f).flatMap fun y => (zs y).map (g y), wd) := by
  have key : ∀ (l : List α) (acc : List PyData), (∀ y ∈ l, y ∈ ys) → acc.length + ((l.filter f).flatMap fun y => (zs y).map (g y)).length ≤ small → Clause (evN lf1 n) sc t ifs (NestK (evN lf1 n) sc elt t₂ it₂ []) vs (l.map enc) (acc, wd) (acc ++ ((l.filter f).flatMap fun y => (zs y).map (g y)), wd) := by
    intro l
    induction l with
    | nil => intro acc _ _; rw [List.filter_nil, List.flatMap_nil, List.append_nil]; exact .nil
    | cons y r ih =>
      intro acc hm hs
      obtain ⟨vs', h1, h2, h3⟩ := h y (hm y (.head _))
      rw [List.map_cons]
      cases q : f y with
      | false =>
        rw [q] at h2
        rw [List.filter_cons_of_neg (by rw [q]; decide)] at hs ⊢
        exact .skip h1 h2 (ih acc (fun z hz => hm z (.tail _ hz)) hs)
      | true =>
        obtain ⟨h4, h5⟩ := h3 q
        rw [q] at h2
        rw [List.filter_cons_of_pos q, List.flatMap_cons] at hs ⊢
        rw [List.length_append, ← Nat.add_assoc, ← List.length_append] at hs
        have inner := c_clause (L := lf1) (n := n) (sc := sc) (vs := vs') (wd := wd) (enc := enc₂) (f := fun _ => true) (g := g y) (t := t₂) (elt := elt) (ifs := []) (ys := zs y) (acc := acc) (fun z hz => by
          obtain ⟨vs'', h1, h2⟩ := h5 z hz
          exact ⟨vs'', h1, t_nil, fun _ => h2⟩) (by rw [List.length_append, List.length_map] at hs; exact Nat.le_trans (Nat.le_add_right _ _) hs)
        rw [List.filter_eq_self.mpr fun _ _ => rfl] at inner
        rw [← List.append_assoc]
        exact .take h1 h2 (.mk h4 inner) (ih (acc ++ (zs y).map (g y)) (fun z hz => hm z (.tail _ hz)) hs)
  have := key ys [] (fun _ h => h) (by rw [List.length_nil, Nat.zero_add]; exact hz)
  exact .two this
/-- a comprehension whose items act on the headers -/
theorem c_fold {α : Type} {enc : α → PyData} {g : α → PyData} {W : List α → Wd} {t it elt : Expr} {ys : List α}
    (h : ∀ pre y post, ys = pre ++ y :: post → ∃ vs', BindF sc t (.dat (enc y)) vs vs' ∧ (evN lf1 n).ev sc elt vs' (W pre) (.dat (g y)) (W (pre ++ [y]))) (hz : ys.length ≤ small) :
    CompOf (evN lf1 n) sc elt [⟨t, it, [], 0⟩] (ys.map enc) vs (W []) (ys.map g, W ys) := by
  have key : ∀ (post pre : List α), ys = pre ++ post → Clause (evN lf1 n) sc t [] (ElemK (evN lf1 n) sc elt) vs (post.map enc) (pre.map g, W pre) (ys.map g, W ys) := by
    intro post
    induction post with
    | nil => intro pre e; rw [List.append_nil] at e; subst e; exact .nil
    | cons y post ih =>
      intro pre e
      obtain ⟨vs', h1, h2⟩ := h pre y post e
      have := ih (pre ++ [y]) (by rw [e, List.append_assoc]; rfl)
      rw [List.map_append, List.map_singleton] at this
      refine .take h1 t_nil (.mk h2 ?_) this
      rw [e, List.length_append] at hz
      rw [List.length_map]
      exact Nat.le_trans (Nat.le_add_right _ _) hz
  exact .one (key ys [] rfl)
/-- the four places, the sixteen choices -/
noncomputable def e4 (k : Fin 4) : PyData := .int (k.val : Int)
theorem i_r4 {f : Str} {p q : Pos} {e : Expr} {wd₁ : Wd} (h0 : (f == "range") = true) (hg : globV sc "range" = true) (h0' : notStar e = true) (h1 : (evN lf1 n).ev sc e vs wd (.dat (.int 4)) wd₁) : ItersOf (evN lf1 n) sc vs (.Call (.Name f p) [e] [] q) wd (all4.map e4) wd₁ := i_range h0 hg h0' h1 (by decide)
noncomputable def eN (k : Nat) : PyData := .int (k : Int)
theorem i_rN {m : Nat} {f : Str} {p q : Pos} {e : Expr} {wd₁ : Wd} (h0 : (f == "range") = true) (hg : globV sc "range" = true) (h0' : notStar e = true) (h1 : (evN lf1 n).ev sc e vs wd (.dat (.int (m : Int))) wd₁) (hm : m ≤ small) : ItersOf (evN lf1 n) sc vs (.Call (.Name f p) [e] [] q) wd ((List.range m).map eN) wd₁ := i_range (k := (m : Int)) h0 hg h0' h1 (by rw [Bool.and_eq_true, decide_eq_true_eq, decide_eq_true_eq]; omega)
end

/-! the cells -/
noncomputable def cellsD (c : Fin 4 → Int) : PyData := .list (all4.map fun k => .int (c k))
structure CellsOk (G : Gm) (c : Fin 4 → Int) : Prop where
  own : ∀ k, Int.fmod (c k) 2 = bI (G.own k)
  num : ∀ k, Int.fmod (Int.fdiv (c k) 2) 4 = ((G.num k).val : Int)
  way0 : ∀ k, Int.fmod (Int.fdiv (c k) 8) 4 = ((G.way k false).val : Int)
  way1 : ∀ k, Int.fmod (Int.fdiv (c k) 32) 4 = ((G.way k true).val : Int)
theorem at4 {f : Fin 4 → PyData} (k : Fin 4) : subV (.dat (.list (all4.map f))) (.dat (.int (k.val : Int))) = some (.dat (f k)) := by
  match k with
  | 0 => rfl
  | 1 => rfl
  | 2 => rfl
  | 3 => rfl
theorem ownV {G : Gm} {c : Fin 4 → Int} (H : CellsOk G c) (k : Fin 4) : binopV .Mod (.dat (.int (c k))) (.dat (.int 2)) = some (.dat (.int (bI (G.own k)))) := by
  show some (PV.dat (.int (Int.fmod (c k) 2))) = _
  rw [H.own]
theorem numV {G : Gm} {c : Fin 4 → Int} (H : CellsOk G c) (k : Fin 4) : binopV .Mod (.dat (.int (Int.fdiv (c k) 2))) (.dat (.int 4)) = some (.dat (.int ((G.num k).val : Int))) := by
  show some (PV.dat (.int (Int.fmod (Int.fdiv (c k) 2) 4))) = _
  rw [H.num]
theorem max2_ev {a b : Nat} {wd : Wd} : lf1.cb ⟨#[109, 97, 120]⟩ [.dat (.int (a : Int)), .dat (.int (b : Int))] wd (.dat (.int ((if b > a then b else a : Nat) : Int))) wd := by
  have : (((if b > a then b else a : Nat) : Int)) = if (b : Int) > a then (b : Int) else a := by
    by_cases h : b > a
    · rw [if_pos h, if_pos (Int.ofNat_lt.mpr h)]
    · rw [if_neg h, if_neg (fun q => h (Int.ofNat_lt.mp q))]
  rw [this]
  exact CallB.max2 rfl

/-! going round -/
noncomputable def rowD (f : Fin 4 → Fin 4) : PyData := .list (all4.map fun k => e4 (f k))
noncomputable def itF (f : Fin 4 → Fin 4) (k : Fin 4) : Nat → Fin 4
  | 0 => k
  | i + 1 => f (itF f k i)
noncomputable def mxTo (G : Gm) (f : Fin 4 → Fin 4) (k : Fin 4) : Nat → Nat
  | 0 => 0
  | i + 1 => if (G.num (itF f k (3 + i))).val > mxTo G f k i then (G.num (itF f k (3 + i))).val else mxTo G f k i
theorem mxTo4 (G : Gm) (f : Fin 4 → Fin 4) (k : Fin 4) : mxTo G f k 4 = mx G f k := rfl
theorem ring_call {n : Nat} {G : Gm} {c : Fin 4 → Int} (H : CellsOk G c) {f : Fin 4 → Fin 4} {k : Fin 4} {wd : Wd} : CallF lf1 (evN lf1 (n + 8)) fN_ring [.dat (cellsD c), .dat (rowD f), .dat (e4 k)] wd (.dat (.int (bI (pr G f k)))) wd := by
  refine o_call fO_ring (by rfl) ?_
  generalize hb : (fnD fN_ring) = d
  conv at hb => 
    lhs
    reduce
  subst hb
  refine o_for (α := Nat) (enc := eN) (ys := List.range 3) (I := fun pre vs wd' => wd' = wd ∧ vs.lookup nCells = some (.dat (cellsD c)) ∧ vs.lookup nHeads = some (.dat (rowD f)) ∧ vs.lookup nSpot = some (.dat (e4 (itF f k pre.length)))) (i_rN rfl rfl rfl (r_const rfl) (by decide)) rfl ⟨rfl, rfl, rfl, rfl⟩ (fun pre y post vs wd' hy h => ?_) fun vs wd' h => ?_
  · obtain ⟨rfl, h1, h2, h3⟩ := h
    refine ⟨_, .name rfl rfl, o_next (s_name rfl (r_sub rfl (r_name rfl (n_tail rfl h2)) (r_name rfl (n_tail rfl h3)) (at4 _)) rfl) (o_nil ⟨rfl, rfl, h1, h2, ?_⟩)⟩
    rw [List.length_append]; rfl
  obtain ⟨rfl, h1, h2, h3⟩ := h
  refine o_next (s_name rfl (r_const rfl) rfl) ?_
  refine o_for (α := Nat) (enc := eN) (ys := List.range 4) (I := fun pre vs w2 => w2 = wd' ∧ vs.lookup nCells = some (.dat (cellsD c)) ∧ vs.lookup nHeads = some (.dat (rowD f)) ∧ vs.lookup nSpot = some (.dat (e4 (itF f k (3 + pre.length)))) ∧ vs.lookup ⟨#[116, 111, 112]⟩ = some (.dat (.int (mxTo G f k pre.length : Int)))) (i_rN rfl rfl rfl (r_const rfl) (by decide)) rfl ⟨rfl, h1, h2, h3, rfl⟩ (fun pre y post vs wd' hy h => ?_) fun vs wd' h => ?_
  · obtain ⟨rfl, h1, h2, h3, h4⟩ := h
    refine ⟨_, .name rfl rfl, o_next (s_name rfl (r_call rfl (r_two rfl rfl (r_name rfl (n_tail rfl h4)) (r_bin (r_bin (r_sub rfl (r_name rfl (n_tail rfl h1)) (r_name rfl (n_tail rfl h3)) (at4 _)) (r_const rfl) rfl) (r_const rfl) (numV H _))) (k_blt max2_ev)) rfl) (o_next (s_name rfl (r_sub rfl (r_name rfl (n_tail rfl (n_tail rfl h2))) (r_name rfl (n_tail rfl (n_tail rfl h3))) (at4 _)) rfl) (o_nil ⟨rfl, rfl, h1, h2, ?_, ?_⟩))⟩
    · rw [List.length_append]; rfl
    · rw [List.length_append]; rfl
  obtain ⟨rfl, h1, h2, h3, h4⟩ := h
  exact o_ret (s_ret (r_bin (r_name rfl h4) (r_const rfl) (mod2V _))) ⟨rfl, rfl⟩
/-! who surely wins where -/
noncomputable def ownN (G : Gm) (p : Bool) : Nat := ((all4.filter fun k => G.own k == p).map fun k => 2 ^ k.val).sum
noncomputable def headF (G : Gm) (j : Nat) : Fin 4 → Fin 4 := fun k => G.way k (j / 2 ^ k.val % 2 == 1)
noncomputable def plD (G : Gm) (j : Nat) : PyData := .list (all4.map fun k => .int (bI (pr G (headF G j) k)))
noncomputable def metF (G : Gm) (p : Bool) (choice : Nat) : List Nat := (List.range 16).filter fun j => (j &&& ownN G p) == choice
noncomputable def newF (G : Gm) (p : Bool) (acc : List (Fin 4)) (choice : Nat) : List (Fin 4) := all4.filter fun k => !acc.contains k && ((metF G p choice).filter fun j => !(pr G (headF G j) k == p)).isEmpty
noncomputable def sureStep (G : Gm) (p : Bool) (acc : List (Fin 4)) (choice : Nat) : List (Fin 4) := if ((choice &&& ownN G p) == choice) = true then acc ++ newF G p acc choice else acc
noncomputable def sureF (G : Gm) (p : Bool) : List (Fin 4) := (List.range 16).foldl (sureStep G p) []
theorem eqq_nat {a b : Nat} : cmpV .Eq (.dat (.int (a : Int))) (.dat (.int (b : Int))) = some (a == b) := by
  rw [eqq_int]
  congr 1
  rw [Bool.eq_iff_iff, beq_iff_eq, beq_iff_eq]
  omega
theorem ne_int {a b : Int} : cmpV .NotEq (.dat (.int a)) (.dat (.int b)) = some (!(a == b)) := by
  show (eqD (.int a) (.int b)).map (fun x => !x) = _
  rw [show eqD (.int a) (.int b) = some (a == b) from eqq_int]; rfl
theorem band_nat {a b : Nat} : binopV .BitAnd (.dat (.int (a : Int))) (.dat (.int (b : Int))) = some (.dat (.int ((a &&& b : Nat) : Int))) := by
  show some (PV.dat (.int (Builtin.bitAnd (a : Int) (b : Int)))) = _
  rw [bitAnd_pp (Int.natCast_nonneg a) (Int.natCast_nonneg b)]
  simp
theorem e4_in {k : Fin 4} {acc : List (Fin 4)} (hz : acc.length ≤ small) : inD (e4 k) (acc.map e4) = some (acc.contains k) := by
  unfold inD
  have h2 : (acc.map e4).all SeqAt.shaped = true := by
    rw [List.all_eq_true]
    intro y hy
    obtain ⟨z, _, rfl⟩ := List.mem_map.mp hy
    exact shp_int.ok (by decide)
  rw [show SeqAt.shaped (e4 k) = true from shp_int.ok (by decide), h2, List.length_map, decide_eq_true hz, if_pos (by rfl), List.any_map]
  congr 1
  clear h2 hz
  induction acc with
  | nil => rfl
  | cons y r ih =>
    rw [List.any_cons, List.contains_cons, ih]
    congr 1
    show PyData.eqv (.int (y.val : Int)) (.int (k.val : Int)) = _
    rw [PyData.eqv, Bool.eq_iff_iff, beq_iff_eq, beq_iff_eq]
    omega
theorem e4_ni {k : Fin 4} {acc : List (Fin 4)} (hz : acc.length ≤ small) : cmpV .NotIn (.dat (e4 k)) (.mut (acc.map e4)) = some (!acc.contains k) := by
  show (some (acc.map e4)).bind (fun xs => (inD (e4 k) xs).map (!·)) = _
  rw [Option.bind_some, e4_in hz]; rfl
theorem shp_pl (G : Gm) (j : Nat) : Shp 1 (plD G j) := shp_list (shp_map (fun _ => shp_int) all4)
theorem eqq_none {xs : List PyData} {k : Nat} (h : ∀ x ∈ xs, Shp k x) (hk : k < 64) : cmpV .Eq (.dat (.list xs)) (.dat (.list [])) = some xs.isEmpty := by
  show eqD _ _ = _
  unfold eqD
  rw [(shp_list h).ok hk, (shp_list (k := 0) (xs := []) fun _ h => no_mem h).ok (by decide), if_pos (by rfl), PyData.eqv]
  cases xs <;> rfl
theorem sum_pow (l : List (Fin 4)) : ((l.map fun k => (2 : Int) ^ k.val)).sum = (((l.map fun k => 2 ^ k.val).sum : Nat) : Int) := by
  induction l with
  | nil => rfl
  | cons x r ih => rw [List.map_cons, List.sum_cons, ih, List.map_cons, List.sum_cons]; push_cast; rfl
theorem sum_ev {l : List (Fin 4)} {wd : Wd} : lf1.cb ⟨#[115, 117, 109]⟩ [.dat (.list (l.map fun k => .int ((2 : Int) ^ k.val)))] wd (.dat (.int (((l.map fun k => 2 ^ k.val).sum : Nat) : Int))) wd := by
  rw [← sum_pow]
  exact CallB.sum rfl rfl (intsD_map (fun k : Fin 4 => (2 : Int) ^ k.val) l)
theorem sure_call {n : Nat} {G : Gm} {c : Fin 4 → Int} (H : CellsOk G c) {p : Bool} {wd : Wd} : CallF lf1 (evN lf1 (n + 14)) fN_sure [.dat (cellsD c), .dat (.list ((List.range 16).map (plD G))), .dat (.int (bI p))] wd (.dat (.list ((sureF G p).map e4))) wd := by
  refine o_call fO_sure (by rfl) ?_
  generalize hb : (fnD fN_sure) = d
  conv at hb => 
    lhs
    reduce
  subst hb
  have sm : small = 1000 := rfl
  refine o_next (s_name (v := .dat (.int (ownN G p : Int))) rfl (r_call rfl (r_one rfl (r_lc rfl (i_r4 rfl rfl rfl (r_const rfl)) (c_one (α := Fin 4) (enc := e4) (ys := all4) (f := fun k => G.own k == p) (g := fun k => .int ((2 : Int) ^ k.val)) (fun k hk => ⟨_, b_name rfl, t_oneE (r_tcmp (r_bin (r_sub rfl (r_name rfl rfl) (r_name rfl rfl) (at4 k)) (r_const rfl) (ownV H k)) (r_name rfl rfl) rfl eqq_int) (bI_eq _ _), fun _ => r_bin (r_const rfl) (r_name rfl rfl) ?_⟩) (by decide)))) (k_blt sum_ev)) rfl) ?_
  · match k with
    | 0 => rfl
    | 1 => rfl
    | 2 => rfl
    | 3 => rfl
  refine o_next (s_mut rfl) ?_
  refine o_for (α := Nat) (enc := eN) (ys := List.range 16) (I := fun pre vs w2 => w2 = wd ∧ vs.lookup nPlays = some (.dat (.list ((List.range 16).map (plD G)))) ∧ vs.lookup nPlayer = some (.dat (.int (bI p))) ∧ vs.lookup nOwn = some (.dat (.int (ownN G p : Int))) ∧ vs.lookup nSure = some (.mut ((pre.foldl (sureStep G p) []).map e4)) ∧ (vs.all fun p => p.1 == nSure || notMut p.2) = true ∧ (pre.foldl (sureStep G p) []).length ≤ 4 * pre.length) (i_rN rfl rfl rfl (r_const rfl) (by decide)) rfl ⟨rfl, rfl, rfl, rfl, rfl, rfl, Nat.le_refl _⟩ (fun pre ch post vs w2 hy h => ?_) fun vs w2 h => ?_
  · obtain ⟨rfl, h1, h2, h3, h4, h5, h6⟩ := h
    refine ⟨_, .name rfl rfl, ?_⟩
    have hpl : pre.length ≤ 16 := by
      have : (List.range 16).length = _ := congrArg List.length hy
      rw [List.length_range, List.length_append] at this
      omega
    rw [List.foldl_append, List.foldl_cons, List.foldl_nil, List.length_append, List.length_singleton]
    generalize hacc : pre.foldl (sureStep G p) [] = acc at *
    unfold sureStep
    have hnew : (newF G p acc ch).length ≤ 4 := List.length_filter_le _ _
    cases hc : (ch &&& ownN G p) == ch with
    | false =>
      refine o_ifF (by rw [← hc]; exact r_tcmp (r_bin (r_name rfl n_head) (r_name rfl (n_tail rfl h3)) band_nat) (r_name rfl n_head) rfl eqq_nat) (o_nil (o_nil ⟨rfl, rfl, h1, h2, h3, h4, h5, ?_⟩))
      rw [if_neg (by decide)]
      omega
    | true =>
      rw [if_pos rfl]
      refine o_ifT (by rw [← hc]; exact r_tcmp (r_bin (r_name rfl n_head) (r_name rfl (n_tail rfl h3)) band_nat) (r_name rfl n_head) rfl eqq_nat) ?_
      refine o_next (s_lc (r_lc rfl (i_rN rfl rfl rfl (r_const rfl) (by decide)) (c_one (α := Nat) (enc := eN) (ys := List.range 16) (f := fun j => (j &&& ownN G p) == ch) (g := plD G) (fun j hj => ⟨_, b_name rfl, t_one (r_tcmp (r_bin (r_name rfl n_head) (r_name rfl (n_tail rfl (n_seen rfl (n_tail rfl h3)))) band_nat) (r_name rfl (n_tail rfl (n_seen rfl n_head))) rfl eqq_nat), fun _ => r_sub rfl (r_name rfl (n_tail rfl (n_seen rfl (n_tail rfl h1)))) (r_name rfl n_head) (sub_nat (by rw [List.length_map, List.length_range]; decide) (by rw [List.getElem?_map, List.getElem?_range (List.mem_range.mp hj)]; rfl))⟩) (by rw [List.length_range]; decide))) rfl) ?_
      have hml : (metF G p ch).length ≤ 16 := Nat.le_trans (List.length_filter_le _ _) (by rw [List.length_range]; exact Nat.le_refl _)
      refine o_next (s_ext (xs := acc.map e4) (ys := (newF G p acc ch).map e4) ?_ (n_tail rfl (n_tail rfl h4)) (r_one rfl (r_lc rfl (i_r4 rfl rfl rfl (r_const rfl)) (c_one (α := Fin 4) (enc := e4) (ys := all4) (f := fun k => !acc.contains k && ((metF G p ch).filter fun j => !(pr G (headF G j) k == p)).isEmpty) (g := e4) (fun k hk => ⟨_, b_name rfl, t_oneE (r_tb (r_and (r_tcmp (r_name rfl n_head) (r_name rfl (n_tail rfl (n_seen rfl (n_tail rfl (n_tail rfl h4))))) rfl (e4_ni (by omega))) fun _ => r_and (r_tcmp (r_lc rfl (i_of rfl (r_name rfl (n_tail rfl (n_seen rfl n_head))) rfl ?_) (c_one (α := Nat) (enc := plD G) (ys := metF G p ch) (f := fun j => !(pr G (headF G j) k == p)) (g := plD G) (fun j hj => ⟨_, b_name rfl, t_oneE (r_tcmp (r_sub rfl (r_name rfl n_head) (r_name rfl (n_tail rfl (n_seen rfl n_head))) (at4 k)) (r_name rfl (n_tail rfl (n_seen rfl (n_tail rfl (n_seen rfl (n_tail rfl (n_tail rfl h2))))))) rfl ne_int) (by rw [bI_eq]), fun _ => r_name rfl n_head⟩) ?_)) (r_list r_nil (Nat.zero_le _) rfl) rfl (eqq_none (shp_map (shp_pl G) _) (by decide))) fun _ => r_and_nil) rfl) ?_, fun _ => r_name rfl n_head⟩) ?_))) ?_) (o_nil (o_nil ⟨rfl, rfl, h1, h2, h3, ?_, h5, ?_⟩))
      · rw [Bool.and_eq_true]
        exact ⟨rfl, h5⟩
      · rw [List.length_map]; omega
      · omega
      · rw [Bool.and_true, List.isEmpty_map]
      · decide
      · rw [List.length_map, List.length_map, decide_eq_true (show acc.length ≤ small from by omega), decide_eq_true (show (newF G p acc ch).length ≤ small from by omega)]; rfl
      · rw [List.map_append]; rfl
      · rw [List.length_append]; omega
  · obtain ⟨rfl, h1, h2, h3, h4, h5, h6⟩ := h
    exact o_ret (s_ret (r_name rfl h4)) ⟨rfl, rfl⟩
noncomputable def waysD (G : Gm) : PyData := .list (all4.map fun k => .list [eS (G.way k false), eS (G.way k true)])
noncomputable def allW (G : Gm) (p : Bool) : List (Fin 4) := (all4.filter fun k => G.own k == p).flatMap fun k => [G.way k false, G.way k true]
theorem allW_len {G : Gm} {p : Bool} : (allW G p).length ≤ 8 := by
  unfold allW
  rw [List.length_flatMap, show ((fun k => [G.way k false, G.way k true].length) : Fin 4 → Nat) = fun _ => 2 from rfl, List.map_const', List.sum_replicate_nat]
  have : (all4.filter fun k => G.own k == p).length ≤ 4 := List.length_filter_le _ _
  omega
theorem all_callL {n : Nat} {G : Gm} {c : Fin 4 → Int} (H : CellsOk G c) {p : Bool} {wd : Wd} : CallF lf1 (evN lf1 (n + 10)) fN_all [.dat (cellsD c), .dat (waysD G), .dat (.int (bI p))] wd (.dat (.list ((sortF (allW G p)).map eL))) wd := by
  refine o_call fO_all (by rfl) ?_
  generalize hb : (fnD fN_all) = d
  conv at hb => 
    lhs
    reduce
  subst hb
  have hal := allW_len (G := G) (p := p)
  have he : ((all4.filter fun k => G.own k == p).flatMap fun k => [G.way k false, G.way k true].map eS) = (allW G p).map eS := by unfold allW; rw [List.map_flatMap]
  refine o_ret (s_ret (r_lc rfl (i_of rfl (r_call rfl (r_one rfl (r_lc rfl (i_r4 rfl rfl rfl (r_const rfl)) (c_two (α := Fin 4) (β := Fin 4) (enc := e4) (enc₂ := eS) (ys := all4) (f := fun k => G.own k == p) (zs := fun k => [G.way k false, G.way k true]) (g := fun _ z => eS z) (fun k hk => ⟨_, b_name rfl, t_oneE (r_tcmp (r_bin (r_sub rfl (r_name rfl rfl) (r_name rfl rfl) (at4 k)) (r_const rfl) (ownV H k)) (r_name rfl rfl) rfl eqq_int) (bI_eq _ _), fun _ => ⟨i_of rfl (r_sub rfl (r_name rfl rfl) (r_name rfl rfl) (at4 k)) rfl (show 2 ≤ small from by decide), fun z hz => ⟨_, .name rfl rfl rfl, r_name rfl rfl⟩⟩⟩) ?_))) (k_blt (by
    show lf1.cb _ [.dat (.list ((all4.filter fun k => G.own k == p).flatMap fun k => [G.way k false, G.way k true].map eS))] _ _ _
    rw [he]; exact sort_ev (by omega)))) rfl ?_) (c_one (α := Fin 4) (enc := eS) (ys := sortF (allW G p)) (f := fun _ => true) (g := eL) (fun k hk => ⟨_, b_name rfl, t_nil, fun _ => r_list (r_one rfl (r_name rfl rfl)) (show 1 ≤ small from by decide) rfl⟩) ?_))) ?_
  · rw [he, List.length_map]; have : small = 1000 := rfl; omega
  · rw [List.length_map, sortF_len]; have : small = 1000 := rfl; omega
  · rw [sortF_len]; have : small = 1000 := rfl; omega
  · rw [List.filter_eq_self.mpr fun _ _ => rfl]; exact ⟨rfl, rfl⟩

/-! stores anew -/
noncomputable def anewI (its rows : List (Str × Str)) : List (Str × Str) := rows.foldl (fun its p => hSet its p.1 p.2) its
theorem okI_set {its : List (Str × Str)} {x y : Str} (h : okI its = true) (hz : its.length < 60) (hx : okT x = true) (hy : okT y = true) : okI (hSet its x y) = true ∧ (hSet its x y).length ≤ its.length + 1 := by
  obtain ⟨_, hn⟩ := okI_names h
  have hl : (its.filter fun p => lowT p.1 != lowT x).length ≤ its.length := List.length_filter_le _ _
  unfold okI hSet
  rw [List.length_append, List.length_singleton, Bool.and_eq_true, decide_eq_true_eq, List.all_eq_true]
  refine ⟨⟨by omega, fun p hp => ?_⟩, by omega⟩
  rcases List.mem_append.mp hp with hp | hp
  · have := hn p (List.mem_filter.mp hp).1
    rw [this.1, this.2]; rfl
  · rw [List.mem_singleton] at hp
    subst hp
    show (okT x && okT y) = true
    rw [hx, hy]; rfl
theorem anew_call {n i : Nat} {its rows : List (Str × Str)} {wd : Wd} (hw : wd[i]? = some its) (hi : okI its = true) (hr : ∀ p ∈ rows, okT p.1 = true ∧ okT p.2 = true) (hz : its.length + rows.length ≤ 60) :
    CallF lf1 (evN lf1 (n + 8)) fN_anew [.hdr i, .dat (.list (rows.map pairD))] wd (.dat (.list ((anewI its rows).map pairD))) (wd.set i (anewI its rows)) := by
  refine o_call fO_anew (by rfl) ?_
  generalize hb : (fnD fN_anew) = d
  conv at hb => 
    lhs
    reduce
  subst hb
  have sm : small = 1000 := rfl
  have hlt : i < wd.length := (List.getElem?_eq_some_iff.mp hw).1
  refine o_for (α := Str × Str) (enc := pairD) (ys := rows) (I := fun pre vs w2 => w2 = wd.set i (anewI its pre) ∧ vs.lookup nBoard = some (.hdr i) ∧ okI (anewI its pre) = true ∧ (anewI its pre).length ≤ its.length + pre.length) (i_of rfl (r_name rfl rfl) rfl (by rw [List.length_map]; omega)) rfl ⟨?_, rfl, hi, Nat.le_refl _⟩ (fun pre y post vs w2 hy h => ?_) fun vs w2 h => ?_
  · show wd = wd.set i its
    obtain ⟨_, e⟩ := List.getElem?_eq_some_iff.mp hw
    rw [← e, List.set_getElem_self]
  · obtain ⟨rfl, h1, h2, h3⟩ := h
    have hlen : pre.length < rows.length := by rw [hy, List.length_append, List.length_cons]; omega
    have e : anewI its (pre ++ [y]) = hSet (anewI its pre) y.1 y.2 := by unfold anewI; rw [List.foldl_append]; rfl
    obtain ⟨ho1, ho2⟩ := hr y (by rw [hy]; simp)
    obtain ⟨k1, k2⟩ := okI_set (x := y.1) (y := y.2) h2 (by omega) ho1 ho2
    refine ⟨_, .pair rfl rfl, o_next (s_sub (r_name rfl n_head) (r_name rfl (n_tail rfl (n_tail rfl h1))) (r_name rfl (n_tail rfl n_head)) (set_ev (by rw [List.getElem?_set_self hlt]) h2 ho1 ho2)) (o_nil ⟨rfl, ?_, h1, ?_, ?_⟩)⟩
    · rw [List.set_set, e]
    · rw [e]; exact k1
    · rw [e, List.length_append, List.length_singleton]; omega
  · obtain ⟨rfl, h1, h2, h3⟩ := h
    exact o_ret (s_ret (r_meth rfl (r_name rfl h1) r_nil (items_ev (by rw [List.getElem?_set_self hlt]) h2))) ⟨rfl, rfl⟩
theorem lay_call {n : Nat} {ps : List (Str × Str)} (hr : ∀ p ∈ ps, okT p.1 = true ∧ okT p.2 = true) (hz : ps.length ≤ 60) :
    CallF lf1 (evN lf1 (n + 8)) fN_lay [.dat (.list (ps.map pairD))] [] (.two (.hdr 0) (.dat (.list (ps.map fun _ => .none)))) [ps] := by
  refine o_call fO_lay (by rfl) ?_
  generalize hb : (fnD fN_lay) = d
  conv at hb => 
    lhs
    reduce
  subst hb
  have sm : small = 1000 := rfl
  refine o_next (s_name rfl (r_call rfl r_nil (k_blt (CallB.hdr rfl))) rfl) ?_
  refine o_next (s_lc (r_lc rfl (i_of rfl (r_name rfl rfl) rfl (by rw [List.length_map]; omega)) (c_fold (α := Str × Str) (enc := pairD) (ys := ps) (g := fun _ => .none) (W := fun pre => [pre]) (fun pre y post hy => ⟨_, b_pair rfl, r_meth rfl (r_name rfl rfl) (r_two rfl rfl (r_name rfl rfl) (r_name rfl rfl)) (add_ev rfl ?_ (hr y (by rw [hy]; simp)).1 (hr y (by rw [hy]; simp)).2)⟩) (by omega))) rfl) ?_
  · unfold okI
    have : pre.length ≤ ps.length := by rw [hy, List.length_append]; omega
    rw [Bool.and_eq_true, decide_eq_true_eq, List.all_eq_true]
    refine ⟨by omega, fun p hp => ?_⟩
    obtain ⟨h1, h2⟩ := hr p (by rw [hy]; exact List.mem_append_left _ hp)
    rw [h1, h2]; rfl
  exact o_ret (s_ret (r_tuple (r_two rfl rfl (r_name rfl rfl) (r_name rfl rfl)) rfl)) ⟨rfl, rfl⟩
/-! choices as bits -/
noncomputable def natOf (f : Fin 4 → Bool) : Nat := (if f 0 then 1 else 0) + (if f 1 then 2 else 0) + (if f 2 then 4 else 0) + (if f 3 then 8 else 0)
noncomputable def bitsOf (j : Nat) : Fin 4 → Bool := fun k => j / 2 ^ k.val % 2 == 1
noncomputable def fb4 (a b c d : Bool) : Fin 4 → Bool
  | 0 => a
  | 1 => b
  | 2 => c
  | 3 => d
theorem fb4_eq (f : Fin 4 → Bool) : f = fb4 (f 0) (f 1) (f 2) (f 3) := by
  funext k
  match k with
  | 0 => rfl
  | 1 => rfl
  | 2 => rfl
  | 3 => rfl
theorem bits_nat (f : Fin 4 → Bool) (k : Fin 4) : bitsOf (natOf f) k = f k := by
  have h : ∀ a b c d k, bitsOf (natOf (fb4 a b c d)) k = fb4 a b c d k := by decide +kernel
  rw [fb4_eq f]; exact h _ _ _ _ k
theorem nat_lt (f : Fin 4 → Bool) : natOf f < 16 := by
  have h : ∀ a b c d, natOf (fb4 a b c d) < 16 := by decide +kernel
  rw [fb4_eq f]; exact h _ _ _ _
theorem nat_bits {j : Nat} (h : j < 16) : natOf (bitsOf j) = j := by
  have : ∀ j < 16, natOf (bitsOf j) = j := by decide +kernel
  exact this j h
theorem nat_and (f g : Fin 4 → Bool) : natOf f &&& natOf g = natOf fun k => f k && g k := by
  have h : ∀ a b c d a' b' c' d', natOf (fb4 a b c d) &&& natOf (fb4 a' b' c' d') = natOf (fb4 (a && a') (b && b') (c && c') (d && d')) := by decide +kernel
  rw [fb4_eq f, fb4_eq g, h]
  congr 1
  funext k
  match k with
  | 0 => rfl
  | 1 => rfl
  | 2 => rfl
  | 3 => rfl
theorem nat_inj {f g : Fin 4 → Bool} (h : natOf f = natOf g) : f = g := by
  funext k
  rw [← bits_nat f, ← bits_nat g, h]
theorem own_nat (G : Gm) (p : Bool) : ownN G p = natOf fun k => G.own k == p := by
  have h : ∀ a b c d : Bool, ((all4.filter (fb4 a b c d)).map fun k => 2 ^ k.val).sum = natOf (fb4 a b c d) := by decide +kernel
  unfold ownN
  have := h (G.own 0 == p) (G.own 1 == p) (G.own 2 == p) (G.own 3 == p)
  rw [← fb4_eq fun k => G.own k == p] at this
  exact this
/-- a choice for the player, and what goes with it -/
noncomputable def sureAt (G : Gm) (p : Bool) (ch : Nat) (k : Fin 4) : Prop := (ch &&& ownN G p) = ch ∧ ∀ j < 16, (j &&& ownN G p) = ch → pr G (headF G j) k = p
theorem step_mem {G : Gm} {p : Bool} {acc : List (Fin 4)} {ch : Nat} {k : Fin 4} : k ∈ sureStep G p acc ch ↔ k ∈ acc ∨ sureAt G p ch k := by
  unfold sureStep sureAt newF metF
  by_cases h : ch &&& ownN G p = ch
  · rw [if_pos (beq_iff_eq.mpr h), List.mem_append, List.mem_filter]
    have e : (((List.range 16).filter fun j => (j &&& ownN G p) == ch).filter fun j => !(pr G (headF G j) k == p)).isEmpty = true ↔ ∀ j < 16, (j &&& ownN G p) = ch → pr G (headF G j) k = p := by
      rw [List.isEmpty_iff, List.filter_eq_nil_iff]
      constructor
      · intro hh j hj hc
        have := hh j (List.mem_filter.mpr ⟨List.mem_range.mpr hj, beq_iff_eq.mpr hc⟩)
        simpa using this
      · intro hh j hj
        obtain ⟨h1, h2⟩ := List.mem_filter.mp hj
        rw [hh j (List.mem_range.mp h1) (beq_iff_eq.mp h2)]; simp
    constructor
    · rintro (h1 | ⟨_, h2⟩)
      · exact .inl h1
      · rw [Bool.and_eq_true] at h2
        exact .inr ⟨h, e.mp h2.2⟩
    · rintro (h1 | ⟨_, h2⟩)
      · exact .inl h1
      · by_cases hk : k ∈ acc
        · exact .inl hk
        · refine .inr ⟨mem_all4 k, ?_⟩
          rw [Bool.and_eq_true, Bool.not_eq_true', List.contains_eq_mem]
          exact ⟨decide_eq_false hk, e.mpr h2⟩
  · rw [if_neg (fun q => h (beq_iff_eq.mp q))]
    exact ⟨.inl, fun q => q.elim id fun q => absurd q.1 h⟩
theorem fold_mem {G : Gm} {p : Bool} {k : Fin 4} : ∀ {l : List Nat} {acc : List (Fin 4)}, k ∈ l.foldl (sureStep G p) acc ↔ k ∈ acc ∨ ∃ ch ∈ l, sureAt G p ch k
  | [], acc => by simp
  | ch :: r, acc => by
    rw [List.foldl_cons, fold_mem, step_mem]
    constructor
    · rintro ((h | h) | ⟨c, hc, h⟩)
      · exact .inl h
      · exact .inr ⟨ch, .head _, h⟩
      · exact .inr ⟨c, .tail _ hc, h⟩
    · rintro (h | ⟨c, hc, h⟩)
      · exact .inl (.inl h)
      · rcases List.mem_cons.mp hc with rfl | hc
        · exact .inl (.inr h)
        · exact .inr ⟨c, hc, h⟩
theorem step_nodup {G : Gm} {p : Bool} {acc : List (Fin 4)} {ch : Nat} (h : acc.Nodup) : (sureStep G p acc ch).Nodup := by
  unfold sureStep
  split
  · rw [List.nodup_append]
    refine ⟨h, List.Nodup.sublist List.filter_sublist (by decide), fun x hx y hy e => ?_⟩
    subst e
    unfold newF at hy
    have := (List.mem_filter.mp hy).2
    rw [Bool.and_eq_true, Bool.not_eq_true', List.contains_eq_mem] at this
    exact absurd hx (of_decide_eq_false this.1)
  · exact h
theorem fold_nodup {G : Gm} {p : Bool} : ∀ {l : List Nat} {acc : List (Fin 4)}, acc.Nodup → (l.foldl (sureStep G p) acc).Nodup
  | [], _, h => h
  | ch :: r, acc, h => fold_nodup (l := r) (acc := sureStep G p acc ch) (step_nodup h)
theorem sure_nodup {G : Gm} {p : Bool} : (sureF G p).Nodup := fold_nodup List.nodup_nil
theorem sure_mem {G : Gm} {p : Bool} {k : Fin 4} : k ∈ sureF G p ↔ ∃ ch, ch < 16 ∧ sureAt G p ch k := by
  unfold sureF
  rw [fold_mem]
  constructor
  · rintro (h | ⟨c, hc, h⟩)
    · cases h
    · exact ⟨c, List.mem_range.mp hc, h⟩
  · rintro ⟨c, hc, h⟩
    exact .inr ⟨c, List.mem_range.mpr hc, h⟩
theorem sure_one {G : Gm} {k : Fin 4} {p : Bool} (h1 : k ∈ sureF G p) (h2 : k ∈ sureF G !p) : False := by
  obtain ⟨c1, l1, a1, b1⟩ := sure_mem.mp h1
  obtain ⟨c2, l2, a2, b2⟩ := sure_mem.mp h2
  rw [own_nat, ← nat_bits l1, nat_and] at a1
  rw [own_nat, ← nat_bits l2, nat_and] at a2
  have a1 := fun k => congrFun (nat_inj a1) k
  have a2 := fun k => congrFun (nat_inj a2) k
  have e1 := b1 (natOf fun k => bitsOf c1 k || bitsOf c2 k) (nat_lt _) (by
    rw [own_nat, nat_and]
    rw [← nat_bits l1]
    congr 1
    funext k
    have h1 := a1 k
    have h2 := a2 k
    rw [nat_bits l1]
    revert h1 h2
    cases bitsOf c1 k <;> cases bitsOf c2 k <;> cases G.own k <;> cases p <;> decide)
  have e2 := b2 (natOf fun k => bitsOf c1 k || bitsOf c2 k) (nat_lt _) (by
    rw [own_nat, nat_and]
    rw [← nat_bits l2]
    congr 1
    funext k
    have h1 := a1 k
    have h2 := a2 k
    rw [nat_bits l2]
    revert h1 h2
    cases bitsOf c1 k <;> cases bitsOf c2 k <;> cases G.own k <;> cases p <;> decide)
  rw [e1] at e2
  cases p <;> cases e2
theorem sure_win {G : Gm} {p : Bool} {W : PS} (h : Win G (fun _ => true) p W) {k : Fin 4} (hk : W k = true) : k ∈ sureF G p := by
  obtain ⟨σ, h1, h2, h3⟩ := h
  have hb : ∀ k, ∃ b, W k = true → G.own k = p → G.way k b = σ k := fun k => by
    by_cases hw : W k = true
    · by_cases ho : G.own k = p
      · obtain ⟨b, e⟩ := (h1 k hw ho).1
        exact ⟨b, fun _ _ => e⟩
      · exact ⟨false, fun _ h => absurd h ho⟩
    · exact ⟨false, fun h => absurd h hw⟩
  obtain ⟨b, hb⟩ := (⟨fun k => Classical.choose (hb k), fun k => Classical.choose_spec (hb k)⟩ : ∃ f : Fin 4 → Bool, ∀ k, W k = true → G.own k = p → G.way k (f k) = σ k)
  refine sure_mem.mpr ⟨natOf fun k => b k && (G.own k == p), nat_lt _, ?_, fun j hj hc => ?_⟩
  · rw [own_nat, nat_and]
    congr 1
    funext k
    rw [Bool.and_assoc, Bool.and_self]
  · rw [own_nat, ← nat_bits hj, nat_and] at hc
    have hc := fun k => congrFun (nat_inj hc) k
    have hhead : ∀ k, headF G j k = G.way k (bitsOf j k) := fun _ => rfl
    refine h3 (headF G j) (fun k => W k = true) (fun k hk => ?_) k hk
    have hσ : G.own k = p → headF G j k = σ k := fun ho => by
      have := hc k
      simp only [ho, beq_self_eq_true, Bool.and_true] at this
      rw [hhead, this]
      exact hb k hk ho
    refine ⟨hk, ?_, ⟨_, rfl⟩, hσ⟩
    by_cases ho : G.own k = p
    · rw [hσ ho]; exact (h1 k hk ho).2
    · exact h2 k hk ho _ rfl
theorem sure_iff {G : Gm} {v : Fin 4 → Bool} (h : ∀ p, Win G (fun _ => true) p fun k => true && (v k == p)) {p : Bool} {k : Fin 4} : k ∈ sureF G p ↔ v k = p := by
  constructor
  · intro hk
    refine Classical.byContradiction fun hn => ?_
    have : k ∈ sureF G !p := sure_win (h !p) (by rw [Bool.true_and, beq_iff_eq]; cases p <;> cases e : v k <;> simp_all)
    exact sure_one hk this
  · intro hk
    exact sure_win (h p) (by rw [Bool.true_and, beq_iff_eq]; exact hk)
theorem sure_all {G : Gm} {v : Fin 4 → Bool} (h : ∀ p, Win G (fun _ => true) p fun k => true && (v k == p)) : sortF (sureF G false ++ sureF G true) = all4 := by
  refine up_perm ((sortF_perm _).trans ?_) (sortF_up _) (by unfold Up; decide)
  refine (List.perm_ext_iff_of_nodup ?_ (by decide)).mpr fun x => ?_
  · rw [List.nodup_append]
    refine ⟨sure_nodup, sure_nodup, fun x hx y hy e => ?_⟩
    subst e
    exact sure_one hx hy
  · refine ⟨fun _ => mem_all4 x, fun _ => ?_⟩
    rw [List.mem_append, sure_iff h, sure_iff h]
    cases v x <;> simp
/-! the game that the cells tell -/
theorem fmod4_lt (x : Int) : (Int.fmod x 4).toNat < 4 := by
  have := Int.fmod_lt_of_pos x (b := 4) (by decide)
  have := Int.fmod_nonneg_of_pos x (b := 4) (by decide)
  omega
noncomputable def f4 (x : Int) : Fin 4 := ⟨(Int.fmod x 4).toNat, fmod4_lt x⟩
theorem f4_val (x : Int) : Int.fmod x 4 = ((f4 x).val : Int) := by
  have := Int.fmod_nonneg_of_pos x (b := 4) (by decide)
  show _ = (((Int.fmod x 4).toNat : Nat) : Int)
  omega
theorem fmod2_b (x : Int) : Int.fmod x 2 = bI (Int.fmod x 2 == 1) := by
  have h1 := Int.fmod_lt_of_pos x (b := 2) (by decide)
  have h2 := Int.fmod_nonneg_of_pos x (b := 2) (by decide)
  have : Int.fmod x 2 = 0 ∨ Int.fmod x 2 = 1 := by omega
  rcases this with h | h <;> rw [h] <;> rfl
noncomputable def gmOf (c : Fin 4 → Int) : Gm := ⟨fun k => Int.fmod (c k) 2 == 1, fun k => f4 (Int.fdiv (c k) 2), fun k b => f4 (Int.fdiv (c k) (if b then 32 else 8))⟩
theorem gmOf_ok (c : Fin 4 → Int) : CellsOk (gmOf c) c := ⟨fun k => fmod2_b _, fun k => f4_val _, fun k => f4_val _, fun k => f4_val _⟩
noncomputable def bigOf (c : Fin 4 → Int) (k : Fin 4) : Bool := Int.fmod (Int.fdiv (c k) 128) 2 == 1

/-! the ways as they are laid -/
noncomputable def psL (G : Gm) (big : Fin 4 → Bool) : List (Str × Str) := all4.flatMap fun k => [G.way k false, G.way k true].map fun z => (nmB k (big k), pl z)
theorem psL_mem {G : Gm} {big : Fin 4 → Bool} {p : Str × Str} (h : p ∈ psL G big) : ∃ k z, p = (nmB k (big k), pl z) := by
  obtain ⟨k, _, hk⟩ := List.mem_flatMap.mp h
  obtain ⟨z, _, e⟩ := List.mem_map.mp hk
  exact ⟨k, z, e.symm⟩
theorem psL_okT {G : Gm} {big : Fin 4 → Bool} : ∀ p ∈ psL G big, okT p.1 = true ∧ okT p.2 = true := fun p hp => by
  obtain ⟨k, z, rfl⟩ := psL_mem hp
  exact ⟨nmB_ok _ _, pl_ok _⟩
theorem psL_len {G : Gm} {big : Fin 4 → Bool} : (psL G big).length = 8 := rfl
theorem okI_of {its : List (Str × Str)} (h : ∀ p ∈ its, okT p.1 = true ∧ okT p.2 = true) (hz : its.length ≤ 60) : okI its = true := by
  unfold okI
  rw [Bool.and_eq_true, decide_eq_true_eq, List.all_eq_true]
  exact ⟨hz, fun p hp => by rw [(h p hp).1, (h p hp).2]; rfl⟩
theorem psL_at {G : Gm} {big : Fin 4 → Bool} (k : Fin 4) : (psL G big).filter (fun p => lowT p.1 == lowT (pu k)) = [(nmB k (big k), pl (G.way k false)), (nmB k (big k), pl (G.way k true))] := by
  have e : ∀ j, (lowT (nmB j (big j)) == lowT (pu k)) = (j == k) := fun j => low_key j k (big j) true
  unfold psL all4
  simp only [List.flatMap_cons, List.flatMap_nil, List.map_cons, List.map_nil, List.cons_append, List.nil_append, List.append_nil, List.filter_cons, List.filter_nil, e]
  match k with
  | 0 => rfl
  | 1 => rfl
  | 2 => rfl
  | 3 => rfl
theorem psL_all {G : Gm} {big : Fin 4 → Bool} (k : Fin 4) : hAll (psL G big) (pu k) = [eS (G.way k false), eS (G.way k true)] := by
  unfold hAll
  rw [psL_at]; rfl
theorem psL_get {G : Gm} {big : Fin 4 → Bool} (k : Fin 4) : hGet (psL G big) (pu k) = eS (G.way k false) := by
  unfold hGet
  rw [← List.head?_filter, psL_at]; rfl
theorem psL_arcs {G : Gm} {big : Fin 4 → Bool} : ArcsOk G (psL G big) := ⟨okI_of psL_okT (by rw [psL_len]; decide), psL_all⟩

/-! the verdicts -/
noncomputable def pv (v : Fin 4 → Bool) (k : Fin 4) : PyData := .tuple [eS k, .str (vS (v k))]
theorem pv_lt (v : Fin 4 → Bool) (a b : Fin 4) : ltPair (pv v a) (pv v b) = decide (a < b) := by
  show (if pl a == pl b then strLt (vS (v a)) (vS (v b)) else strLt (pl a) (pl b)) = _
  rw [pl_eq, pl_lt]
  by_cases h : a = b
  · subst h
    rw [if_pos (by simp)]
    cases v a <;> decide +revert
  · rw [if_neg (by simpa using h)]
theorem strLt_self (b : Bool) : strLt (vS b) (vS b) = false := by cases b <;> decide
theorem due_ev {l : List (Fin 4)} {v : Fin 4 → Bool} {wd : Wd} (h : sortF l = all4) : lf1.cb ⟨#[115, 111, 114, 116, 101, 100]⟩ [.dat (.list (l.map (pv v)))] wd (.dat (.list (all4.map (pv v)))) wd := by
  refine CallB.sorted rfl ?_
  have hl : l.length = 4 := by rw [← sortF_len, h]; rfl
  have h1 : (l.map (pv v)).all isStrD = false := by
    cases l with
    | nil => cases hl
    | cons x r => rfl
  have h2 : (l.map (pv v)).all isPairD = true := by
    rw [List.all_eq_true]
    intro y hy
    obtain ⟨z, _, rfl⟩ := List.mem_map.mp hy
    rfl
  have h3 : ((l.map (pv v)).map firstD).Nodup := by
    rw [List.map_map]
    show (l.map pl).Nodup
    have hn : l.Nodup := (sortF_perm l).nodup_iff.mp (by rw [h]; decide)
    refine List.Pairwise.map pl (fun a b hab e => hab ?_) hn
    have := pl_eq a b
    rw [e, beq_self_eq_true] at this
    exact eq_of_beq this.symm
  unfold sortV
  rw [if_neg (by rw [h1]; simp), if_pos, sortD_map (pv_lt v), h]
  · rw [List.length_map, hl, h2, decide_eq_true h3]; rfl
theorem shp_pv (v : Fin 4 → Bool) (k : Fin 4) : Shp 1 (pv v k) := shp_tup fun x hx => by
  rcases List.mem_cons.mp hx with rfl | hx
  · exact shp_str (pl_ok k)
  · rw [List.mem_singleton] at hx; subst hx; exact shp_str (vS_ok _)
theorem shp_pair {p : Str × Str} (h1 : okT p.1 = true) (h2 : okT p.2 = true) : Shp 1 (pairD p) := shp_tup fun x hx => by
  rcases List.mem_cons.mp hx with rfl | hx
  · exact shp_str h1
  · rw [List.mem_singleton] at hx; subst hx; exact shp_str h2
theorem shp_pairs {ps : List (Str × Str)} (h : ∀ p ∈ ps, okT p.1 = true ∧ okT p.2 = true) : Shp 2 (.list (ps.map pairD)) := shp_list fun x hx => by
  obtain ⟨p, hp, rfl⟩ := List.mem_map.mp hx
  exact shp_pair (h p hp).1 (h p hp).2

/-! what is stored anew -/
theorem anewI_all {rows : List (Str × Str)} : ∀ {its : List (Str × Str)}, (rows.map fun p => lowT p.1).Nodup → anewI its rows = (its.filter fun p => !(rows.map fun p => lowT p.1).contains (lowT p.1)) ++ rows := by
  induction rows with
  | nil => intro its _; show its = _; rw [List.append_nil]; exact (List.filter_eq_self.mpr fun _ _ => rfl).symm
  | cons x r ih =>
    intro its hn
    rw [List.map_cons] at hn
    obtain ⟨hn1, hn2⟩ := List.nodup_cons.mp hn
    show anewI (hSet its x.1 x.2) r = _
    rw [ih hn2]
    unfold hSet
    rw [List.filter_append, List.filter_filter, List.append_assoc]
    congr 1
    · congr 1
      funext p
      rw [List.map_cons, List.contains_cons]
      cases q : lowT p.1 == lowT x.1 <;> simp [bne, q]
    · have : (r.map fun p => lowT p.1).contains (lowT x.1) = false := by
        rw [List.contains_eq_mem]; exact decide_eq_false hn1
      simp only [List.filter_cons, List.filter_nil, this, Bool.not_false, if_true]
      rfl
theorem anewI_rows {rows its : List (Str × Str)} (hn : (rows.map fun p => lowT p.1).Nodup) (h : ∀ p ∈ its, lowT p.1 ∈ rows.map fun p => lowT p.1) : anewI its rows = rows := by
  rw [anewI_all hn, List.filter_eq_nil_iff.mpr fun p hp => by rw [List.contains_eq_mem, decide_eq_true (h p hp)]; decide]
  rfl
noncomputable def rowsL (v : Fin 4 → Bool) : List (Str × Str) := [3, 2, 1, 0].map fun k : Fin 4 => (nmB k (v k), vS (v k))
noncomputable def moreL (v : Fin 4 → Bool) : List (Str × Str) := ([3, 2, 1, 0].map fun k : Fin 4 => (nmB k (v k) ++ nmB k (v k), nmB k (v k))) ++ rowsL v
theorem dbl_low : ∀ k v, lowT (nmB k v ++ nmB k v) = pl k ++ pl k := by decide +kernel
theorem dbl_ok : ∀ k v, okT (nmB k v ++ nmB k v) = true := by decide +kernel
theorem rowsL_low (v : Fin 4 → Bool) : (rowsL v).map (fun p => lowT p.1) = [3, 2, 1, 0].map pl := by
  unfold rowsL
  rw [List.map_map]
  congr 1
  funext k
  exact low_nmB _ _
theorem moreL_low (v : Fin 4 → Bool) : (moreL v).map (fun p => lowT p.1) = ([3, 2, 1, 0].map fun k => pl k ++ pl k) ++ [3, 2, 1, 0].map pl := by
  unfold moreL
  rw [List.map_append, rowsL_low, List.map_map]
  congr 2
  funext k
  exact dbl_low _ _
theorem rowsL_okT {v : Fin 4 → Bool} : ∀ p ∈ rowsL v, okT p.1 = true ∧ okT p.2 = true := fun p hp => by
  obtain ⟨k, _, rfl⟩ := List.mem_map.mp hp
  exact ⟨nmB_ok _ _, vS_ok _⟩
theorem moreL_okT {v : Fin 4 → Bool} : ∀ p ∈ moreL v, okT p.1 = true ∧ okT p.2 = true := fun p hp => by
  rcases List.mem_append.mp hp with hp | hp
  · obtain ⟨k, _, rfl⟩ := List.mem_map.mp hp
    exact ⟨dbl_ok _ _, nmB_ok _ _⟩
  · exact rowsL_okT p hp
theorem pl_in_rows : ∀ k, pl k ∈ [3, 2, 1, 0].map pl := by decide +kernel
theorem rows_anew {b : Bd} {v : Fin 4 → Bool} : anewI (encB b) (rowsL v) = rowsL v := by
  refine anewI_rows ?_ fun p hp => ?_
  · rw [rowsL_low]; decide +kernel
  · obtain ⟨q, _, rfl⟩ := List.mem_map.mp hp
    rw [rowsL_low]
    show lowT (nmB q.1 q.2) ∈ _
    rw [low_nmB]
    exact pl_in_rows _
theorem more_anew {G : Gm} {big v : Fin 4 → Bool} : anewI (psL G big) (moreL v) = moreL v := by
  refine anewI_rows ?_ fun p hp => ?_
  · rw [moreL_low]; decide +kernel
  · obtain ⟨k, z, rfl⟩ := psL_mem hp
    rw [moreL_low]
    show lowT (nmB k (big k)) ∈ _
    rw [low_nmB]
    exact List.mem_append_right _ (pl_in_rows _)
/-- the five places asked at the end -/
noncomputable def five : List Str := [⟨#[97]⟩, ⟨#[98]⟩, ⟨#[99]⟩, ⟨#[100]⟩, ⟨#[101]⟩]
theorem five_ok : ∀ x ∈ five, okT x = true := by decide +kernel
theorem low_five : ∀ x ∈ five, lowT x = x := by decide +kernel
theorem more_at (v : Fin 4 → Bool) (k : Fin 4) : (moreL v).filter (fun p => lowT p.1 == lowT (pl k)) = [(nmB k (v k), vS (v k))] := by
  have e1 : ∀ j, (lowT (nmB j (v j)) == lowT (pl k)) = (j == k) := fun j => by rw [low_nmB, low_pl, pl_eq]
  have e2 : ∀ j, (lowT (nmB j (v j) ++ nmB j (v j)) == lowT (pl k)) = false := fun j => by
    rw [dbl_low, low_pl]
    exact (by decide +kernel : ∀ j k, (pl j ++ pl j == pl k) = false) j k
  unfold moreL rowsL
  simp only [List.map_cons, List.map_nil, List.cons_append, List.nil_append, List.filter_cons, List.filter_nil, e1, e2]
  match k with
  | 0 => rfl
  | 1 => rfl
  | 2 => rfl
  | 3 => rfl
theorem more_e (v : Fin 4 → Bool) : (moreL v).filter (fun p => lowT p.1 == lowT ⟨#[101]⟩) = [] := by
  have e1 : ∀ j, (lowT (nmB j (v j)) == lowT ⟨#[101]⟩) = false := fun j => by
    rw [low_nmB]
    exact (by decide +kernel : ∀ j, (pl j == lowT ⟨#[101]⟩) = false) j
  have e2 : ∀ j, (lowT (nmB j (v j) ++ nmB j (v j)) == lowT ⟨#[101]⟩) = false := fun j => by
    rw [dbl_low]
    exact (by decide +kernel : ∀ j, (pl j ++ pl j == lowT ⟨#[101]⟩) = false) j
  unfold moreL rowsL
  simp only [List.map_cons, List.map_nil, List.cons_append, List.nil_append, List.filter_cons, List.filter_nil, e1, e2]
  rfl
noncomputable def lastD (v : Fin 4 → Bool) : List PyData := (all4.map fun k => PyData.tuple [eS k, .str (vS (v k)), .list [.str (vS (v k))]]) ++ [.tuple [.str ⟨#[101]⟩, .none, .list []]]
theorem more_last (v : Fin 4 → Bool) : (five.map fun x => PyData.tuple [.str x, hGet (moreL v) x, .list (hAll (moreL v) x)]) = lastD v := by
  have hg : ∀ k, hGet (moreL v) (pl k) = .str (vS (v k)) := fun k => by unfold hGet; rw [← List.head?_filter, more_at]; rfl
  have ha : ∀ k, hAll (moreL v) (pl k) = [.str (vS (v k))] := fun k => by unfold hAll; rw [more_at]; rfl
  have hg' : hGet (moreL v) ⟨#[101]⟩ = .none := by unfold hGet; rw [← List.head?_filter, more_e]; rfl
  have ha' : hAll (moreL v) ⟨#[101]⟩ = [] := by unfold hAll; rw [more_e]; rfl
  show [PyData.tuple [.str (pl 0), hGet (moreL v) (pl 0), .list (hAll (moreL v) (pl 0))], PyData.tuple [.str (pl 1), hGet (moreL v) (pl 1), .list (hAll (moreL v) (pl 1))], PyData.tuple [.str (pl 2), hGet (moreL v) (pl 2), .list (hAll (moreL v) (pl 2))], PyData.tuple [.str (pl 3), hGet (moreL v) (pl 3), .list (hAll (moreL v) (pl 3))], PyData.tuple [.str ⟨#[101]⟩, hGet (moreL v) ⟨#[101]⟩, .list (hAll (moreL v) ⟨#[101]⟩)]] = _
  rw [hg, hg, hg, hg, ha, ha, ha, ha, hg', ha']
  rfl
theorem shp_last (v : Fin 4 → Bool) : Shp 3 (.list (lastD v)) := shp_list fun x hx => by
  rcases List.mem_append.mp hx with hx | hx
  · obtain ⟨k, _, rfl⟩ := List.mem_map.mp hx
    refine shp_tup fun y hy => ?_
    rcases List.mem_cons.mp hy with rfl | hy
    · exact (shp_str (pl_ok k)).le (by decide)
    rcases List.mem_cons.mp hy with rfl | hy
    · exact (shp_str (vS_ok _)).le (by decide)
    rw [List.mem_singleton] at hy; subst hy
    refine shp_list fun z hz => ?_
    rw [List.mem_singleton] at hz; subst hz
    exact shp_str (vS_ok _)
  · rw [List.mem_singleton] at hx; subst hx
    refine shp_tup fun y hy => ?_
    rcases List.mem_cons.mp hy with rfl | hy
    · exact (shp_str (by decide +kernel)).le (by decide)
    rcases List.mem_cons.mp hy with rfl | hy
    · exact shp_none.le (by decide)
    rw [List.mem_singleton] at hy; subst hy
    exact shp_list fun z hz => no_mem hz
theorem pickL_map {α β : Type} (f : α → β) (xs : List α) (lo hi st : Option Int) : pickL (xs.map f) lo hi st = (pickL xs lo hi st).map f := by
  unfold pickL
  rw [List.length_map, List.map_filterMap]
  congr 1
  funext i
  rw [List.getElem?_map]
theorem pickL_ints (ns : List Int) (lo hi st : Option Int) (wd : Wd) : lf1.cb ⟨#[115, 117, 109]⟩ [.dat (.list (pickL (ns.map PyData.int) lo hi st))] wd (.dat (.int (pickL ns lo hi st).sum)) wd := by
  rw [pickL_map]
  refine CallB.sum rfl rfl ?_
  rw [intsD_map (fun i : Int => i), List.map_id']
noncomputable def baseI : Fin 4 → Int
  | 0 => 78
  | 1 => 108
  | 2 => 147
  | 3 => 73
noncomputable def cellI (ns : List Int) (k : Fin 4) : Int := Int.fmod (baseI k + (pickL ns (some (k.val : Int)) none (some 4)).sum) 1000000
noncomputable def eP (b : Bool) : PyData := .int (if b then 32 else 8)
theorem wayV {c : Fin 4 → Int} (k : Fin 4) (b : Bool) : subV (.dat (.str ⟨#[97, 98, 99, 100]⟩)) (.dat (.int (Int.fmod (Int.fdiv (c k) (if b then 32 else 8)) 4))) = some (.dat (eS ((gmOf c).way k b))) := by
  rw [f4_val]
  show subV _ (.dat (.int (((gmOf c).way k b).val : Int))) = _
  generalize (gmOf c).way k b = j
  match j with
  | 0 => rfl
  | 1 => rfl
  | 2 => rfl
  | 3 => rfl
theorem divV {x : Int} (b : Bool) : binopV .FloorDiv (.dat (.int x)) (.dat (eP b)) = some (.dat (.int (Int.fdiv x (if b then 32 else 8)))) := by cases b <;> rfl
theorem letV (k : Fin 4) : subV (.dat (.str ⟨#[97, 98, 99, 100]⟩)) (.dat (.int (k.val : Int))) = some (.dat (eS k)) := by
  match k with
  | 0 => rfl
  | 1 => rfl
  | 2 => rfl
  | 3 => rfl
theorem bigV {c : Fin 4 → Int} (k : Fin 4) : subV (.dat (.tuple [.str ⟨#[97, 98, 99, 100]⟩, .str ⟨#[65, 66, 67, 68]⟩])) (.dat (.int (Int.fmod (Int.fdiv (c k) 128) 2))) = some (.dat (.str (if bigOf c k then ⟨#[65, 66, 67, 68]⟩ else ⟨#[97, 98, 99, 100]⟩))) := by
  rw [fmod2_b]
  show subV _ (.dat (.int (bI (bigOf c k)))) = _
  cases bigOf c k <;> rfl
theorem bigL (k : Fin 4) (b : Bool) : subV (.dat (.str (if b then ⟨#[65, 66, 67, 68]⟩ else ⟨#[97, 98, 99, 100]⟩))) (.dat (.int (k.val : Int))) = some (.dat (.str (nmB k b))) := by
  cases b
  · match k with
    | 0 => rfl
    | 1 => rfl
    | 2 => rfl
    | 3 => rfl
  · match k with
    | 0 => rfl
    | 1 => rfl
    | 2 => rfl
    | 3 => rfl
theorem d_nil {ev : Expr → Wd → PV → Wd → Prop} {wd : Wd} : DispOf ev [] [] wd [] wd := .nil
theorem d_cons {ev : Expr → Wd → PV → Wd → Prop} {x : Str} {k} {p : Pos} {ks : List (Option Expr)} {e : Expr} {es : List Expr} {wd wd₁ wd₂ : Wd} {b : PV} {r : List (Str × PV)} (h1 : ev e wd b wd₁) (h2 : notMut b = true) (h3 : DispOf ev ks es wd₁ r wd₂) : DispOf ev (some (.Constant (.str x) k p) :: ks) (e :: es) wd ((x, b) :: r) wd₂ := .cons h1 h2 h3
theorem dc_four {n : Nat} {sc : Scope} {k e t it : Expr} {vs : Vars} {wd : Wd} {f : Fin 4 → Int} (h : ∀ j, ∃ vs', BindF sc t (.dat (e4 j)) vs vs' ∧ (evN lf1 n).ev sc k vs' wd (.dat (eS j)) wd ∧ (evN lf1 n).ev sc e vs' wd (.dat (.int (f j))) wd) :
    DctOf (evN lf1 n) sc k e [⟨t, it, [], 0⟩] (all4.map e4) vs wd ([(⟨#[97]⟩, .dat (.int (f 0))), (⟨#[98]⟩, .dat (.int (f 1))), (⟨#[99]⟩, .dat (.int (f 2))), (⟨#[100]⟩, .dat (.int (f 3)))], wd) := by
  obtain ⟨v0, a0, b0, c0⟩ := h 0
  obtain ⟨v1, a1, b1, c1⟩ := h 1
  obtain ⟨v2, a2, b2, c2⟩ := h 2
  obtain ⟨v3, a3, b3, c3⟩ := h 3
  exact .mk (.cons a0 b0 c0 rfl rfl (show 0 ≤ small by decide) (.cons a1 b1 c1 rfl rfl (show 1 ≤ small by decide) (.cons a2 b2 c2 rfl rfl (show 2 ≤ small by decide) (.cons a3 b3 c3 rfl rfl (show 3 ≤ small by decide) .nil))))
theorem list_abcd (wd : Wd) : lf1.cb ⟨#[108, 105, 115, 116]⟩ [.dat (.str ⟨#[97, 98, 99, 100]⟩)] wd (rowV fun _ => true) wd := CallB.abcd rfl rfl

theorem c_oneT {n : Nat} {sc : Scope} {vs : Vars} {wd : Wd} {α : Type} {enc : α → PyData} {g : α → PyData} {t it elt : Expr} {ys : List α} (h : ∀ y ∈ ys, ∃ vs', BindF sc t (.dat (enc y)) vs vs' ∧ (evN lf1 n).ev sc elt vs' wd (.dat (g y)) wd) (hz : ys.length ≤ small) :
    CompOf (evN lf1 n) sc elt [⟨t, it, [], 0⟩] (ys.map enc) vs wd (ys.map g, wd) := by
  have := c_one (L := lf1) (n := n) (sc := sc) (vs := vs) (wd := wd) (enc := enc) (f := fun _ => true) (g := g) (t := t) (it := it) (elt := elt) (ifs := []) (ys := ys) (fun y hy => by obtain ⟨vs', h1, h2⟩ := h y hy; exact ⟨vs', h1, t_nil, fun _ => h2⟩) hz
  rw [List.filter_eq_self.mpr fun _ _ => rfl] at this
  exact this
noncomputable def eB (p : Bool) : PyData := .int (bI p)
theorem i_r2 {n : Nat} {sc : Scope} {vs : Vars} {wd wd₁ : Wd} {f : Str} {p q : Pos} {e : Expr} (h0 : (f == "range") = true) (hg : globV sc "range" = true) (h0' : notStar e = true) (h1 : (evN lf1 n).ev sc e vs wd (.dat (.int 2)) wd₁) : ItersOf (evN lf1 n) sc vs (.Call (.Name f p) [e] [] q) wd ([false, true].map eB) wd₁ := i_range h0 hg h0' h1 (by decide)
theorem powV (k : Fin 4) : binopV .Pow (.dat (.int 2)) (.dat (e4 k)) = some (.dat (.int ((2 ^ k.val : Nat) : Int))) := by
  match k with
  | 0 => rfl
  | 1 => rfl
  | 2 => rfl
  | 3 => rfl
theorem fdivV (j : Nat) (k : Fin 4) : binopV .FloorDiv (.dat (eN j)) (.dat (.int ((2 ^ k.val : Nat) : Int))) = some (.dat (.int ((j / 2 ^ k.val : Nat) : Int))) := by
  have h : (decide (((2 ^ k.val : Nat) : Int) ≠ 0) && decide ((((2 ^ k.val : Nat) : Int)).natAbs ≤ 2 ^ 20)) = true := by
    match k with
    | 0 => rfl
    | 1 => rfl
    | 2 => rfl
    | 3 => rfl
  show (if (decide (((2 ^ k.val : Nat) : Int) ≠ 0) && decide ((((2 ^ k.val : Nat) : Int)).natAbs ≤ 2 ^ 20)) = true then some (PV.dat (.int (Int.fdiv (j : Int) ((2 ^ k.val : Nat) : Int)))) else none) = _
  rw [if_pos h, Int.fdiv_eq_ediv_of_nonneg _ (Int.natCast_nonneg _), ← Int.natCast_ediv]
theorem at832 (b : Bool) : subV (.dat (.tuple [.int 8, .int 32])) (.dat (.int (bI b))) = some (.dat (eP b)) := by cases b <;> rfl
theorem modV4 {c : Fin 4 → Int} (k : Fin 4) (b : Bool) : binopV .Mod (.dat (.int (Int.fdiv (c k) (if b then 32 else 8)))) (.dat (.int 4)) = some (.dat (e4 ((gmOf c).way k b))) := by
  show some (PV.dat (.int (Int.fmod (Int.fdiv (c k) (if b then 32 else 8)) 4))) = _
  rw [f4_val]; rfl
theorem dblV (k : Fin 4) (b : Bool) : binopV .Add (.dat (.str (nmB k b))) (.dat (.str (nmB k b))) = some (.dat (.str (nmB k b ++ nmB k b))) := by
  cases b
  · match k with
    | 0 => rfl
    | 1 => rfl
    | 2 => rfl
    | 3 => rfl
  · match k with
    | 0 => rfl
    | 1 => rfl
    | 2 => rfl
    | 3 => rfl
theorem r_orW {f : Expr → Wd → Bool → Wd → Prop} {s : Bool} {e : Expr} {es : List Expr} {wd wd₁ wd₂ : Wd} (h1 : f e wd false wd₁) (h2 : AllT f .Or es wd₁ s wd₂) : AllT f .Or (e :: es) wd s wd₂ := .go h1 h2
theorem ne_nil : cmpV .NotEq (.dat (.list [])) (.dat (.list [])) = some false := ne_refl (shp_list (k := 0) (xs := []) fun _ h => no_mem h) (by decide)
theorem back_list : pickL all4 none none (some (-1)) = [3, 2, 1, 0] := by decide +kernel
theorem items_abcd : itemsV (.dat (.str ⟨#[97, 98, 99, 100]⟩)) = some (all4.map eS) := by kernel_rfl!
theorem items_ABCD : itemsV (.dat (.str ⟨#[65, 66, 67, 68]⟩)) = some (all4.map fun k => .str (pu k)) := by kernel_rfl!
theorem items_abcde : itemsV (.dat (.str ⟨#[97, 98, 99, 100, 101]⟩)) = some (five.map .str) := by kernel_rfl!
theorem law_true' (ns : List Int) (hns : ns.length ≤ 63) : LawOk ns := by
  have key : Outs 40 (fnD ⟨#[108, 97, 119]⟩).2.2 (fnD ⟨#[108, 97, 119]⟩).2.1 ((fnD ⟨#[108, 97, 119]⟩).1.zip [.dat (.list (ns.map .int))]) [] fun fl _ _ => fl = .ret (.dat (.bool true)) := by
    generalize hb : (fnD ⟨#[108, 97, 119]⟩) = d
    conv at hb => 
      lhs
      reduce
    subst hb
    have sm : small = 1000 := rfl
    have hzs : (ns.map PyData.int).length ≤ small := by rw [List.length_map]; omega
    refine o_next (s_lc (v := .dat (cellsD (cellI ns))) (wd₁ := []) (r_lc rfl (i_r4 rfl rfl rfl (r_const rfl)) (c_one (α := Fin 4) (enc := e4) (ys := all4) (f := fun _ => true) (g := fun k => .int (cellI ns k)) (fun k hk => ⟨_, b_name rfl, t_nil, fun _ => r_bin (r_bin (r_sub rfl (r_list (r_cons rfl (r_const rfl) (r_cons rfl (r_const rfl) (r_two rfl rfl (r_const rfl) (r_const rfl)))) (show 4 ≤ small from by decide) rfl) (r_name rfl rfl) (at4 (f := fun k => .int (baseI k)) k)) (r_call rfl (r_one rfl (r_slice (r_name rfl rfl) (p_some (r_name rfl rfl)) .none (p_some (r_const rfl)) (by decide) hzs)) (k_blt (pickL_ints ..))) rfl) (r_const rfl) rfl⟩) (by decide))) rfl) ?_
    generalize cellI ns = c
    have H := gmOf_ok c
    refine o_next (s_lc (v := .dat (waysD (gmOf c))) (wd₁ := []) (r_lc rfl (i_r4 rfl rfl rfl (r_const rfl)) (c_one (α := Fin 4) (enc := e4) (ys := all4) (f := fun _ => true) (g := fun k => .list ([false, true].map fun b => eS ((gmOf c).way k b))) (fun k hk => ⟨_, b_name rfl, t_nil, fun _ => r_lc rfl (i_of (xs := [false, true].map eP) rfl (r_tuple (r_two rfl rfl (r_const rfl) (r_const rfl)) rfl) rfl (show 2 ≤ small from by decide)) (c_one (α := Bool) (enc := eP) (ys := [false, true]) (f := fun _ => true) (g := fun b => eS ((gmOf c).way k b)) (fun b hb => ⟨_, b_name rfl, t_nil, fun _ => r_sub rfl (r_const rfl) (r_bin (r_bin (r_sub rfl (r_name rfl rfl) (r_name rfl rfl) (at4 (f := fun k => .int (c k)) k)) (r_name rfl rfl) (divV b)) (r_const rfl) rfl) (wayV k b)⟩) (by decide))⟩) (by decide))) rfl) ?_
    refine o_next (s_lc (v := .dat (.list ((psL (gmOf c) (bigOf c)).map pairD))) (wd₁ := []) (r_lc rfl (i_r4 rfl rfl rfl (r_const rfl)) (c_two (α := Fin 4) (β := Fin 4) (enc := e4) (enc₂ := eS) (ys := all4) (f := fun _ => true) (zs := fun k => [(gmOf c).way k false, (gmOf c).way k true]) (g := fun k z => pairD (nmB k (bigOf c k), pl z)) (fun k hk => ⟨_, b_name rfl, t_nil, fun _ => ⟨i_of rfl (r_sub rfl (r_name rfl rfl) (r_name rfl rfl) (at4 k)) rfl (show 2 ≤ small from by decide), fun z hz => ⟨_, .name rfl rfl rfl, r_tuple (r_two rfl rfl (r_sub rfl (r_sub rfl (r_tuple (r_two rfl rfl (r_const rfl) (r_const rfl)) rfl) (r_bin (r_bin (r_sub rfl (r_name rfl rfl) (r_name rfl rfl) (at4 (f := fun k => .int (c k)) k)) (r_const rfl) rfl) (r_const rfl) rfl) (bigV k)) (r_name rfl rfl) (bigL k _)) (r_name rfl rfl)) rfl⟩⟩⟩) (show 8 ≤ small from by decide))) rfl) ?_
    refine o_next (s_tup rfl (r_call rfl (r_one rfl (r_name rfl rfl)) (lay_call psL_okT (by rw [psL_len]; decide))) (.two rfl rfl)) ?_
    have HA := psL_arcs (G := gmOf c) (big := bigOf c)
    have hlen := psL_len (G := gmOf c) (big := bigOf c)
    have hpok := psL_okT (G := gmOf c) (big := bigOf c)
    have hget := psL_get (G := gmOf c) (big := bigOf c)
    have hmore := fun v => more_anew (G := gmOf c) (big := bigOf c) (v := v)
    generalize psL (gmOf c) (bigOf c) = ps at *
    refine o_next (s_name (v := gameV (gmOf c)) (wd₁ := [ps, []]) rfl (r_dict (d_cons (r_list r_nil (Nat.zero_le _) rfl) rfl (d_cons (r_name rfl rfl) rfl (d_cons (r_call rfl r_nil (k_blt (CallB.hdr rfl))) rfl (d_cons (r_dc rfl (i_r4 rfl rfl rfl (r_const rfl)) (dc_four (f := fun k => bI ((gmOf c).own k)) fun k => ⟨_, b_name rfl, r_sub rfl (r_const rfl) (r_name rfl rfl) (letV k), r_bin (r_sub rfl (r_name rfl rfl) (r_name rfl rfl) (at4 (f := fun k => .int (c k)) k)) (r_const rfl) (ownV H k)⟩)) rfl (d_cons (r_dc rfl (i_r4 rfl rfl rfl (r_const rfl)) (dc_four (f := fun k => (((gmOf c).num k).val : Int)) fun k => ⟨_, b_name rfl, r_sub rfl (r_const rfl) (r_name rfl rfl) (letV k), r_bin (r_bin (r_sub rfl (r_name rfl rfl) (r_name rfl rfl) (at4 (f := fun k => .int (c k)) k)) (r_const rfl) rfl) (r_const rfl) (numV H k)⟩)) rfl d_nil))))) ?_) rfl) ?_
    · show (decide ([nFaults, nArcs, nBoard, nOwner, nNumber].Nodup) && decide (1 ≤ 5) && decide (5 ≤ 15)) = true
      decide +kernel
    obtain ⟨b, hj, okb, offb, v, onb, winv⟩ := judge_call HA 4 (fun _ => true) 38 [] row_len (by decide) (fun k _ => ⟨false, rfl⟩) List.nodup_nil
    refine o_next (s_callE (r_call rfl (r_two rfl rfl (r_name rfl rfl) (r_call rfl (r_one rfl (r_const rfl)) (k_blt (list_abcd _)))) hj)) ?_
    have hal := fun p => allW_len (G := gmOf c) (p := p)
    refine o_next (s_callE (r_call rfl (r_cons rfl (r_name rfl rfl) (r_two rfl rfl (r_call rfl (r_cons rfl (r_name rfl rfl) (r_two rfl rfl (r_name rfl rfl) (r_const rfl))) (all_callL H (p := false))) (r_call rfl (r_cons rfl (r_name rfl rfl) (r_two rfl rfl (r_name rfl rfl) (r_const rfl))) (all_callL H (p := true))))) (told_call enc_L (by rw [sortF_len]; have := hal false; omega) (by rw [sortF_len]; have := hal true; omega) (sortF_up _) (sortF_up _) rfl))) ?_
    refine o_next (s_lc (v := .dat (.list ((List.range 16).map fun j => rowD (headF (gmOf c) j)))) (wd₁ := [ps, encB b]) (r_lc rfl (i_rN (m := 16) rfl rfl rfl (r_const rfl) (by decide)) (c_oneT (α := Nat) (enc := eN) (ys := List.range 16) (g := fun j => rowD (headF (gmOf c) j)) (fun j hj => ⟨_, b_name rfl, r_lc rfl (i_r4 rfl rfl rfl (r_const rfl)) (c_oneT (α := Fin 4) (enc := e4) (ys := all4) (g := fun k => e4 (headF (gmOf c) j k)) (fun k hk => ⟨_, b_name rfl, r_bin (r_bin (r_sub rfl (r_name rfl rfl) (r_name rfl rfl) (at4 (f := fun k => .int (c k)) k)) (r_sub rfl (r_tuple (r_two rfl rfl (r_const rfl) (r_const rfl)) rfl) (r_bin (r_bin (r_name rfl rfl) (r_bin (r_const rfl) (r_name rfl rfl) (powV k)) (fdivV j k)) (r_const rfl) (mod2V _)) (at832 _)) (divV _)) (r_const rfl) (modV4 k _)⟩) (by decide))⟩) (by rw [List.length_range]; decide))) rfl) ?_
    refine o_next (s_lc (v := .dat (.list ((List.range 16).map (plD (gmOf c))))) (wd₁ := [ps, encB b]) (r_lc rfl (i_of rfl (r_name rfl rfl) rfl (by rw [List.length_map, List.length_range]; decide)) (c_oneT (α := Nat) (enc := fun j => rowD (headF (gmOf c) j)) (ys := List.range 16) (g := plD (gmOf c)) (fun j hj => ⟨_, b_name rfl, r_lc rfl (i_r4 rfl rfl rfl (r_const rfl)) (c_oneT (α := Fin 4) (enc := e4) (ys := all4) (g := fun k => .int (bI (pr (gmOf c) (headF (gmOf c) j) k))) (fun k hk => ⟨_, b_name rfl, r_call rfl (r_cons rfl (r_name rfl rfl) (r_two rfl rfl (r_name rfl rfl) (r_name rfl rfl))) (ring_call H)⟩) (by decide))⟩) (by rw [List.length_range]; decide))) rfl) ?_
    have hsl : ∀ p, (sureF (gmOf c) p).length ≤ 4 := fun p => nodup_len sure_nodup
    refine o_next (s_lc (v := .dat (.list ((sureF (gmOf c) false).map (pv v) ++ ((sureF (gmOf c) true).map (pv v) ++ [])))) (wd₁ := [ps, encB b]) (r_lc rfl (i_r2 rfl rfl rfl (r_const rfl)) (c_two (α := Bool) (β := Fin 4) (enc := eB) (enc₂ := e4) (ys := [false, true]) (f := fun _ => true) (zs := fun p => sureF (gmOf c) p) (g := fun _ k => pv v k) (fun p hp => ⟨_, b_name rfl, t_nil, fun _ => ⟨i_of rfl (r_call rfl (r_cons rfl (r_name rfl rfl) (r_two rfl rfl (r_name rfl rfl) (r_name rfl rfl))) (sure_call H (p := p))) rfl (by rw [List.length_map]; have := hsl p; omega), fun k hk => ⟨_, .name rfl rfl rfl, r_tuple (r_two rfl rfl (r_sub rfl (r_const rfl) (r_name rfl rfl) (letV k)) (r_sub rfl (r_const rfl) (r_name rfl rfl) (at01 p))) (by unfold pv; rw [(sure_iff winv).mp hk]; rfl)⟩⟩⟩) ?_)) rfl) ?_
    · show ((sureF (gmOf c) false).map (pv v) ++ ((sureF (gmOf c) true).map (pv v) ++ [])).length ≤ small
      rw [List.length_append, List.length_append, List.length_map, List.length_map]
      have := hsl false
      have := hsl true
      show _ + (_ + 0) ≤ _
      omega
    refine o_next (s_lc (v := .dat (.list (all4.map (pv v)))) (wd₁ := [ps, encB b]) (r_lc rfl (i_of rfl (r_const rfl) items_abcd (by decide)) (c_oneT (α := Fin 4) (enc := eS) (ys := all4) (g := pv v) (fun k hk => ⟨_, b_name rfl, r_tuple (r_two rfl rfl (r_name rfl rfl) (r_meth rfl (r_sub rfl (r_name rfl rfl) (r_const rfl) rfl) (r_one rfl (r_meth rfl (r_name rfl rfl) r_nil upper_ev)) (get_evL rfl okb.ok (pu_ok k)))) (by rw [enc_get, onb k rfl]; rfl)⟩) (by decide))) rfl) ?_
    have hdue : ∀ wd, lf1.cb ⟨#[115, 111, 114, 116, 101, 100]⟩ [.dat (.list ((sureF (gmOf c) false).map (pv v) ++ ((sureF (gmOf c) true).map (pv v) ++ [])))] wd (.dat (.list (all4.map (pv v)))) wd := fun wd => by
      rw [List.append_nil, ← List.map_append]
      exact due_ev (sure_all winv)
    have hlaid : cmpV .NotEq (.dat (.list (ps.map fun _ => .none))) (.dat (.list (List.replicate 8 [PyData.none]).flatten)) = some false := by
      rw [List.map_const', hlen]
      exact ne_refl (k := 1) (shp_list fun x hx => by rw [List.eq_of_mem_replicate hx]; exact shp_none) (by decide)
    refine o_next (s_ifF (r_tb (r_or (r_tcmp (r_sub rfl (r_name rfl rfl) (r_const rfl) rfl) (r_list r_nil (Nat.zero_le _) rfl) rfl ne_nil) fun _ => r_or (r_tcmp (r_name rfl rfl) (r_bin (r_list (r_one rfl (r_const rfl)) (show 1 ≤ small from by decide) rfl) (r_const rfl) rfl) rfl hlaid) fun _ => r_or (r_tcmp (r_name rfl rfl) (r_call rfl (r_one rfl (r_name rfl rfl)) (k_blt (hdue _))) rfl (ne_refl (shp_list (shp_map (shp_pv v) all4)) (by decide))) fun _ => r_or_nil) rfl) x_nil) ?_
    have hw : ∀ k : Fin 4, Shp 2 (.tuple [eS ((gmOf c).way k false), .list [eS ((gmOf c).way k false), eS ((gmOf c).way k true)]]) := fun k => shp_tup fun x hx => by
      rcases List.mem_cons.mp hx with rfl | hx
      · exact (shp_str (pl_ok _)).le (by decide)
      · rw [List.mem_singleton] at hx; subst hx
        refine shp_list fun y hy => ?_
        rcases List.mem_cons.mp hy with rfl | hy
        · exact shp_str (pl_ok _)
        · rw [List.mem_singleton] at hy; subst hy; exact shp_str (pl_ok _)
    refine o_next (s_ifF (r_tb (r_or (r_tcmp (r_meth rfl (r_name rfl rfl) r_nil (items_ev rfl HA.ok)) (r_name rfl rfl) rfl (ne_refl (shp_pairs hpok) (by decide))) fun _ => r_or (r_tcmp (r_lc rfl (i_of rfl (r_const rfl) items_ABCD (by decide)) (c_oneT (α := Fin 4) (enc := fun k => .str (pu k)) (ys := all4) (g := fun k => .tuple [eS ((gmOf c).way k false), .list [eS ((gmOf c).way k false), eS ((gmOf c).way k true)]]) (fun k hk => ⟨_, b_name rfl, r_tuple (r_two rfl rfl (r_meth rfl (r_name rfl rfl) (r_one rfl (r_name rfl rfl)) (get_evL rfl HA.ok (pu_ok k))) (r_meth rfl (r_name rfl rfl) (r_one rfl (r_name rfl rfl)) (all_ev rfl HA.ok (pu_ok k)))) (by rw [hget, HA.all]; rfl)⟩) (by decide))) (r_lc rfl (i_of rfl (r_name rfl rfl) rfl (by exact (show 4 ≤ small from by decide))) (c_oneT (α := Fin 4) (enc := fun k => .list [eS ((gmOf c).way k false), eS ((gmOf c).way k true)]) (ys := all4) (g := fun k => .tuple [eS ((gmOf c).way k false), .list [eS ((gmOf c).way k false), eS ((gmOf c).way k true)]]) (fun k hk => ⟨_, b_name rfl, r_tuple (r_two rfl rfl (r_sub rfl (r_name rfl rfl) (r_const rfl) rfl) (r_name rfl rfl)) rfl⟩) (by decide))) rfl (ne_refl (shp_list (shp_map hw all4)) (by decide))) fun _ => r_or_nil) rfl) x_nil) ?_
    have hback : itemsV (.dat (.list (pickL (all4.map (pv v)) none none (some (-1))))) = some (([3, 2, 1, 0] : List (Fin 4)).map (pv v)) := by
      rw [pickL_map, back_list]; rfl
    refine o_next (s_lc (v := .dat (.list ((rowsL v).map pairD))) (wd₁ := [ps, encB b]) (r_lc rfl (i_of rfl (r_slice (r_name rfl rfl) .none .none (p_some (r_neg (r_const rfl))) (by decide) (by exact (show 4 ≤ small from by decide))) hback (by exact (show 4 ≤ small from by decide))) (c_oneT (α := Fin 4) (enc := pv v) (ys := [3, 2, 1, 0]) (g := fun k => pairD (nmB k (v k), vS (v k))) (fun k hk => ⟨_, b_pair rfl, r_tuple (r_two (wd₁ := [ps, encB b]) (a := .dat (.str (nmB k (v k)))) (b := .dat (.str (vS (v k)))) rfl rfl ?_ (r_name rfl rfl)) rfl⟩) (by decide))) rfl) ?_
    · cases hv : v k with
      | false => exact r_ifF (r_tcmp (r_name rfl rfl) (r_const rfl) rfl (by exact cmp_str (vS_ok false) (vS_ok true))) (r_name rfl rfl)
      | true => exact r_ifT (r_tcmp (r_name rfl rfl) (r_const rfl) rfl (by exact cmp_str (vS_ok true) (vS_ok true))) (r_meth rfl (r_name rfl rfl) r_nil upper_ev)
    refine o_next (s_name (v := .dat (.list ((moreL v).map pairD))) (wd₁ := [ps, encB b]) rfl (r_bin (r_lc rfl (i_of rfl (r_name rfl rfl) rfl (by exact (show 4 ≤ small from by decide))) (c_oneT (α := Fin 4) (enc := fun k => pairD (nmB k (v k), vS (v k))) (ys := [3, 2, 1, 0]) (g := fun k => pairD (nmB k (v k) ++ nmB k (v k), nmB k (v k))) (fun k hk => ⟨_, b_pair rfl, r_tuple (r_two rfl rfl (r_bin (r_name rfl rfl) (r_name rfl rfl) (dblV k (v k))) (r_name rfl rfl)) rfl⟩) (by decide))) (r_name rfl rfl) rfl) rfl) ?_
    have ha1 : ∀ n, CallF lf1 (evN lf1 (n + 8)) fN_anew [.hdr 1, .dat (.list ((rowsL v).map pairD))] [ps, encB b] (.dat (.list ((rowsL v).map pairD))) [ps, rowsL v] := fun n => by
      have := anew_call (n := n) (i := 1) (its := encB b) (rows := rowsL v) (wd := [ps, encB b]) rfl okb.ok rowsL_okT (by have := okb.len; show (encB b).length + 4 ≤ 60; unfold encB; rw [List.length_map]; omega)
      rw [rows_anew] at this
      exact this
    have ha0 : ∀ n, CallF lf1 (evN lf1 (n + 8)) fN_anew [.hdr 0, .dat (.list ((moreL v).map pairD))] [ps, rowsL v] (.dat (.list ((moreL v).map pairD))) [moreL v, rowsL v] := fun n => by
      have := anew_call (n := n) (i := 0) (its := ps) (rows := moreL v) (wd := [ps, rowsL v]) rfl HA.ok moreL_okT (by rw [hlen]; exact (show 16 ≤ 60 from by decide))
      rw [hmore] at this
      exact this
    have hmo : okI (moreL v) = true := okI_of moreL_okT (show 8 ≤ 60 from by decide)
    refine o_next (s_ifF (r_tb (r_orW (r_tcmp (r_call rfl (r_two rfl rfl (r_sub rfl (r_name rfl rfl) (r_const rfl) rfl) (r_name rfl rfl)) (ha1 _)) (r_name rfl rfl) rfl (ne_refl (shp_pairs rowsL_okT) (by decide))) (r_orW (r_tcmp (r_call rfl (r_two rfl rfl (r_name rfl rfl) (r_name rfl rfl)) (ha0 _)) (r_name rfl rfl) rfl (ne_refl (shp_pairs moreL_okT) (by decide))) r_or_nil)) rfl) x_nil) ?_
    refine o_ret (s_ret (r_cmp (a := .dat (.list (lastD v))) (b := .dat (.list (lastD v))) (wd₁ := [moreL v, rowsL v]) (wd₂ := [moreL v, rowsL v]) ?_ (r_bin (r_lc rfl (i_of rfl (r_name rfl rfl) rfl (by exact (show 4 ≤ small from by decide))) (c_oneT (α := Fin 4) (enc := pv v) (ys := all4) (g := fun k => PyData.tuple [eS k, .str (vS (v k)), .list [.str (vS (v k))]]) (fun k hk => ⟨_, b_pair rfl, r_tuple (r_cons rfl (r_name rfl rfl) (r_two rfl rfl (r_name rfl rfl) (r_list (r_one rfl (r_name rfl rfl)) (show 1 ≤ small from by decide) rfl))) rfl⟩) (by decide))) (r_list (r_one rfl (r_tuple (r_cons rfl (r_const rfl) (r_two rfl rfl (r_const rfl) (r_list r_nil (Nat.zero_le _) rfl))) rfl)) (show 1 ≤ small from by decide) rfl) rfl) rfl (eqq_refl (shp_last v) (by decide)))) rfl
    rw [← more_last]
    exact r_lc rfl (i_of rfl (r_const rfl) items_abcde (by decide)) (c_oneT (α := Str) (enc := .str) (ys := five) (g := fun x => PyData.tuple [.str x, hGet (moreL v) x, .list (hAll (moreL v) x)]) (fun x hx => ⟨_, b_name rfl, r_tuple (r_cons rfl (r_name rfl rfl) (r_two rfl rfl (r_meth rfl (r_name rfl rfl) (r_one rfl (r_name rfl rfl)) (get_evL rfl hmo (five_ok x hx))) (r_meth rfl (r_name rfl rfl) (r_one rfl (r_name rfl rfl)) (all_ev rfl hmo (five_ok x hx))))) rfl⟩) (by decide))
  obtain ⟨fl, vs', wd', h, rfl⟩ := key
  have e : (Str.ofString "law") = ⟨#[108, 97, 119]⟩ := by decide +kernel
  unfold LawOk
  rw [e]
  exact ⟨vs', wd', h⟩
theorem holds' : PySem.Challenge.rw_tv0041_01.Holds := join law_true'
end Mine
theorem PySem.Challenge.cw_tv0041_01_holds : PySem.Challenge.rw_tv0041_01.Holds :=
  Mine.holds'
